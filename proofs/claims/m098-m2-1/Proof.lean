import JvmDerived
import JvmDerived.Pilot.@@N@@Statement
import JvmDerived.Pilot.@@N@@Code
set_option linter.unusedVariables false
set_option linter.unusedSimpArgs false
namespace Jvm.RoadKit
open Sem ClassFile Op Lib Jvm.Stand Jvm.Free Jvm.LawKit
section New
variable {p : Program} {l : Launch} {e : Env} {R : Room} {s : State} {m : MethodId} {args : Array Value} {below : List Frame} {meth : Method} {c : Code} {T : State} {locs : List Loc} {cells slots : Nat}
theorem retI (X : Stand p l e R s m args below meth c T locs cells slots) (hx : p.tables.exec = Jvm.exec) {pc : Nat} {Ls : Array Slot} {z : Int32} {rest : List Value} (hret : meth.sig.returnType = some .int) (hd : decode c.code pc = .ok (.ireturn, 1)) {fs : List Frame}
    (hl : ∀ (f : JFrame) (acts : List Action), f.method = m → f.locked = none → f.entered = [] → (doReturn e (T.setTop f) acts (some (.int z))).1 = T.setFrames fs) : Steps p.tables e below (T.setTop (mkF m pc Ls (.int z :: rest))) (T.setFrames fs) := by
  have hm' : T.vm.method? m = some meth := X.method'
  have hn : narrow .int (.int z) = .int z := rfl
  show Steps p.tables e below (T.setTop { method := m, pc := pc, locals := Ls, stack := _ :: rest, locked := none }) _
  jvm_step X.here [X.here.top, hx, hd, hm', hret, hn]
  first | (intro acts; rw [hl _ acts rfl rfl rfl]) | rw [hl _ _ rfl rfl rfl]
  exact Steps.refl _
theorem own_retN (X : Stand p l e R s m args below meth c T locs cells slots) (hx : p.tables.exec = Jvm.exec) {pc : Nat} {Ls : Array Slot} {z z' : Int32} {t : FieldType} {rest : List Value} (hret : meth.sig.returnType = some t) (ht : t = .boolean ∨ t = .byte ∨ t = .char ∨ t = .short)
    (hd : decode c.code pc = .ok (.ireturn, 1)) (hz : nar t z = z') {fs : List Frame} (hl : ∀ (f : JFrame) (acts : List Action), f.method = m → f.locked = none → f.entered = [] → (doReturn e (T.setTop f) acts (some (.int z'))).1 = T.setFrames fs) :
    Steps p.tables e below (T.setTop (mkF m pc Ls (.int z :: rest))) (T.setFrames fs) := by
  subst hz; exact retN X hx hret ht hd hl
end New
theorem own_nar_if {P : Prop} [Decidable P] {a b : Int32} (ha : nar .boolean a = a) (hb : nar .boolean b = b) : nar .boolean (if P then a else b) = if P then a else b := by
  split
  · exact ha
  · exact hb
theorem own_b_lt (x y : Int32) : (if if_icmp.holds .lt x y = true then (0 : Int32) else 1) = if x < y then 0 else 1 := by
  by_cases h : x < y
  · rw [(tlt h).1]; simp [h]
  · rw [(flt h).1]; simp [h]
theorem own_b_ge (x y : Int32) : (if if_icmp.holds .ge x y = true then (0 : Int32) else 1) = if x < y then 1 else 0 := by
  by_cases h : x < y
  · rw [(tlt h).2.1]; simp [h]
  · rw [(flt h).2.1]; simp [h]
theorem own_b_gt (x y : Int32) : (if if_icmp.holds .gt x y = true then (0 : Int32) else 1) = if y < x then 0 else 1 := by
  by_cases h : y < x
  · rw [(tlt h).2.2.1]; simp [h]
  · rw [(flt h).2.2.1]; simp [h]
theorem own_b_le (x y : Int32) : (if if_icmp.holds .le x y = true then (0 : Int32) else 1) = if y < x then 1 else 0 := by
  by_cases h : y < x
  · rw [(tlt h).2.2.2]; simp [h]
  · rw [(flt h).2.2.2]; simp [h]
theorem own_b_eq (x y : Int32) : (if if_icmp.holds .eq x y = true then (0 : Int32) else 1) = if x = y then 0 else 1 := by
  by_cases h : x = y
  · rw [(teq h).1]; simp [h]
  · rw [(feq h).1]; simp [h]
theorem own_b_ne (x y : Int32) : (if if_icmp.holds .ne x y = true then (0 : Int32) else 1) = if x = y then 1 else 0 := by
  by_cases h : x = y
  · rw [(teq h).2]; simp [h]
  · rw [(feq h).2]; simp [h]
theorem own_boolC {tb : Tables} [Ours tb] {e : Env} {below : List Frame} {T target : State} {m : MethodId} {c : Code} {g : JFrame} (h : At T m c below) (hx : tb.exec = Jvm.exec) (hg : g.method = m) {cd : ClassFile.Cond} {x y z : Int32} {rest : List Value}
    (hd0 : decode c.code g.pc = .ok (.if_icmp cd 7, 3)) (hd1 : decode c.code (g.pc + 3) = .ok (.iconst 1, 1)) (hd2 : decode c.code (g.pc + 4) = .ok (.goto 4, 3)) (hd3 : decode c.code (g.pc + 7) = .ok (.iconst 0, 1)) (hs : g.stack = .int y :: .int x :: rest)
    (hz : (if if_icmp.holds cd x y = true then (0 : Int32) else 1) = z) (hr : Steps tb e below (T.setTop { g with pc := g.pc + 8, stack := .int z :: rest }) target) : Steps tb e below (T.setTop g) target := by
  by_cases hc : if_icmp.holds cd x y = true
  · rw [if_pos hc] at hz; subst hz
    exact XS.icmpYes h hx hg (pc0 := g.pc) (pc' := g.pc + 7) rfl hd0 hs hc (by omega) (by omega) (XS.iconst h hx hg hd3 hr)
  · rw [if_neg hc] at hz; subst hz
    exact XS.icmpNo h hx hg hd0 hs (by simpa using hc) (XS.iconst h hx hg hd1 (XS.goto h hx hg (pc0 := g.pc + 4) (pc' := g.pc + 8) rfl hd2 (by omega) (by omega) hr))
theorem own_boolI {tb : Tables} [Ours tb] {e : Env} {below : List Frame} {T target : State} {m : MethodId} {c : Code} {g : JFrame} (h : At T m c below) (hx : tb.exec = Jvm.exec) (hg : g.method = m) {cd : ClassFile.Cond} {x z : Int32} {rest : List Value}
    (hd0 : decode c.code g.pc = .ok (.ifCond cd 7, 3)) (hd1 : decode c.code (g.pc + 3) = .ok (.iconst 1, 1)) (hd2 : decode c.code (g.pc + 4) = .ok (.goto 4, 3)) (hd3 : decode c.code (g.pc + 7) = .ok (.iconst 0, 1)) (hs : g.stack = .int x :: rest)
    (hz : (if if_icmp.holds cd x 0 = true then (0 : Int32) else 1) = z) (hr : Steps tb e below (T.setTop { g with pc := g.pc + 8, stack := .int z :: rest }) target) : Steps tb e below (T.setTop g) target := by
  by_cases hc : if_icmp.holds cd x 0 = true
  · rw [if_pos hc] at hz; subst hz
    exact XS.ifYes h hx hg (pc0 := g.pc) (pc' := g.pc + 7) rfl hd0 hs ((if0 _ _).trans hc) (by omega) (by omega) (XS.iconst h hx hg hd3 hr)
  · rw [if_neg hc] at hz; subst hz
    exact XS.ifNo h hx hg hd0 hs ((if0 _ _).trans (by simpa using hc)) (XS.iconst h hx hg hd1 (XS.goto h hx hg (pc0 := g.pc + 4) (pc' := g.pc + 8) rfl hd2 (by omega) (by omega) hr))
theorem own_selects_private {y : MethodName} {s : State} {args : Array Value} {n : Nat} (hins : (Cond.instantiable y.cls n).before args s = true) (hpriv : (Cond.privateMethod y).before args s = true) (hinst : (Cond.instanceMethod y).before args s = true) (hy : y.cls ≠ "java/lang/invoke/MethodHandle" ∧ y.cls ≠ "java/lang/invoke/VarHandle" := by decide) :
    (Cond.selects y.cls y y).before args s = true := by
  obtain ⟨c, k, hc, hk, -, hniab, -, -⟩ := Cond.instantiable_spec hins
  have hni : k.isInterface = false := (Bool.or_eq_false_iff.mp hniab).1
  obtain ⟨mk, methM, hnamed, hmethM, -, -⟩ := Cond.instanceMethod_spec hinst
  have hfound : s.methodFound? y.cls y.name y.desc = some mk := State.methodFound?_of_named hnamed hy
  have hcls : mk.cls = c := Option.some.inj ((findClass_of_methodNamed hnamed).symm.trans hc)
  have hsel : selectMethod {} s.vm c mk = .method mk := selectMethod_private hmethM (Cond.privateMethod_at hpriv mk methM hnamed hmethM)
  simp only [Cond.before, Cond.holds, Cond.value, hc, hfound, hnamed, hsel, hcls, hk]
  simp; exact hni
theorem own_sta_keep {Z : State} {h h' : Heap} {C n d : String} {v : Value} {ws : List Addr} (F : Sta Z h C n d v) (K : Keep h h' ws) (q : ∀ x ∈ ws, ∀ cell : Cell, h[x]? = some cell → cell.vm.isStatics = false) : Sta Z h' C n d v := by
  obtain ⟨cf, i, k, f, st, cell, h1, h2, h3, h4, h5, h6, h7⟩ := F
  refine ⟨cf, i, k, f, st, cell, h1, h2, h3, h4, K.2.1 _ _ h5 (fun hm => ?_), h6, h7⟩
  rw [q _ hm _ h5] at h6; cases h6
theorem own_plain_exa {Z : State} {h : Heap} {a : Addr} {C : String} (F : Exa Z h a C) : ∀ cell : Cell, h[a]? = some cell → cell.vm.isStatics = false := fun cell hc => by
  obtain ⟨c, k, h1, -, -, h4, -⟩ := F
  cases h1.symm.trans hc; exact h4
end Jvm.RoadKit
namespace Jvm.Pilot.@@N@@
open Jvm Jvm.ClassFile Sem Op Lib Jvm.Free Jvm.Stand Jvm.LawKit Jvm.RoadKit Bundle Jvm.Pilot.@@N@@.Jvm.D
def own_dig (q : Int64) (r : Int32) : Prop := (r = 1 ∧ q < (10 : Int64)) ∨ (r = 2 ∧ ¬ (q < (10 : Int64)) ∧ q < (100 : Int64)) ∨ (r = 3 ∧ ¬ (q < (100 : Int64)) ∧ q < (1000 : Int64)) ∨ (r = 4 ∧ ¬ (q < (1000 : Int64)) ∧ q < (10000 : Int64)) ∨ (r = 5 ∧ ¬ (q < (10000 : Int64)) ∧ q < (100000 : Int64)) ∨ (r = 6 ∧ ¬ (q < (100000 : Int64)) ∧ q < (1000000 : Int64)) ∨ (r = 7 ∧ ¬ (q < (1000000 : Int64)) ∧ q < (10000000 : Int64)) ∨ (r = 8 ∧ ¬ (q < (10000000 : Int64)) ∧ q < (100000000 : Int64)) ∨ (r = 9 ∧ ¬ (q < (100000000 : Int64)) ∧ q < (1000000000 : Int64)) ∨ (r = 10 ∧ ¬ (q < (1000000000 : Int64)) ∧ q < (10000000000 : Int64)) ∨ (r = 11 ∧ ¬ (q < (10000000000 : Int64)) ∧ q < (100000000000 : Int64)) ∨ (r = 12 ∧ ¬ (q < (100000000000 : Int64)) ∧ q < (1000000000000 : Int64)) ∨ (r = 13 ∧ ¬ (q < (1000000000000 : Int64)) ∧ q < (10000000000000 : Int64)) ∨ (r = 14 ∧ ¬ (q < (10000000000000 : Int64)) ∧ q < (100000000000000 : Int64)) ∨ (r = 15 ∧ ¬ (q < (100000000000000 : Int64)) ∧ q < (1000000000000000 : Int64)) ∨ (r = 16 ∧ ¬ (q < (1000000000000000 : Int64)) ∧ q < (10000000000000000 : Int64)) ∨ (r = 17 ∧ ¬ (q < (10000000000000000 : Int64)) ∧ q < (100000000000000000 : Int64)) ∨ (r = 18 ∧ ¬ (q < (100000000000000000 : Int64)) ∧ q < (1000000000000000000 : Int64)) ∨ (r = 19 ∧ ¬ (q < (1000000000000000000 : Int64)))
def own_p (j : Int32) : Int64 := ([1, 10, 100, 1000, 10000, 100000, 1000000, 10000000, 100000000, 1000000000, 10000000000, 100000000000, 1000000000000, 10000000000000, 100000000000000, 1000000000000000, 10000000000000000, 100000000000000000, 1000000000000000000] : List Int64).getD j.toNatClampNeg 0
theorem own_at (j : Int32) : ([(.long (1 : Int64)), (.long (10 : Int64)), (.long (100 : Int64)), (.long (1000 : Int64)), (.long (10000 : Int64)), (.long (100000 : Int64)), (.long (1000000 : Int64)), (.long (10000000 : Int64)), (.long (100000000 : Int64)), (.long (1000000000 : Int64)), (.long (10000000000 : Int64)), (.long (100000000000 : Int64)), (.long (1000000000000 : Int64)), (.long (10000000000000 : Int64)), (.long (100000000000000 : Int64)), (.long (1000000000000000 : Int64)), (.long (10000000000000000 : Int64)), (.long (100000000000000000 : Int64)), (.long (1000000000000000000 : Int64))] : List Value).getD j.toNatClampNeg (.long (0 : Int64)) = .long (own_p j) := by
  unfold own_p
  generalize j.toNatClampNeg = n
  match n with
  | 0 => rfl
  | 1 => rfl
  | 2 => rfl
  | 3 => rfl
  | 4 => rfl
  | 5 => rfl
  | 6 => rfl
  | 7 => rfl
  | 8 => rfl
  | 9 => rfl
  | 10 => rfl
  | 11 => rfl
  | 12 => rfl
  | 13 => rfl
  | 14 => rfl
  | 15 => rfl
  | 16 => rfl
  | 17 => rfl
  | 18 => rfl
  | n + 19 => rfl
theorem own_i19 (a : Int32) : ¬ ((a &&& (2147483647 : Int32)) % (19 : Int32)) < 0 ∧ ((a &&& (2147483647 : Int32)) % (19 : Int32)) < (19 : Int32) := by
  have h1 := c_and a (2147483647 : Int32) (by decide)
  have h2 := (c_irem (a &&& (2147483647 : Int32)) (19 : Int32) 19 (by decide)).1 h1.1
  rw [Int32.lt_iff_toInt_lt, Int32.lt_iff_toInt_lt]
  have e1 : (0 : Int32).toInt = 0 := by decide
  have e2 : (19 : Int32).toInt = 19 := by decide
  omega
theorem own_d1 {q : Int64} {r : Int32} (h : own_dig q r) : ¬ (r < (1 : Int32)) := by
  rcases h with ⟨rfl, h1⟩ | ⟨rfl, h1, h2⟩ | ⟨rfl, h1, h2⟩ | ⟨rfl, h1, h2⟩ | ⟨rfl, h1, h2⟩ | ⟨rfl, h1, h2⟩ | ⟨rfl, h1, h2⟩ | ⟨rfl, h1, h2⟩ | ⟨rfl, h1, h2⟩ | ⟨rfl, h1, h2⟩ | ⟨rfl, h1, h2⟩ | ⟨rfl, h1, h2⟩ | ⟨rfl, h1, h2⟩ | ⟨rfl, h1, h2⟩ | ⟨rfl, h1, h2⟩ | ⟨rfl, h1, h2⟩ | ⟨rfl, h1, h2⟩ | ⟨rfl, h1, h2⟩ | ⟨rfl, h1⟩ <;> decide
theorem own_d19 {q : Int64} {r : Int32} (h : own_dig q r) : ¬ ((19 : Int32) < r) := by
  rcases h with ⟨rfl, h1⟩ | ⟨rfl, h1, h2⟩ | ⟨rfl, h1, h2⟩ | ⟨rfl, h1, h2⟩ | ⟨rfl, h1, h2⟩ | ⟨rfl, h1, h2⟩ | ⟨rfl, h1, h2⟩ | ⟨rfl, h1, h2⟩ | ⟨rfl, h1, h2⟩ | ⟨rfl, h1, h2⟩ | ⟨rfl, h1, h2⟩ | ⟨rfl, h1, h2⟩ | ⟨rfl, h1, h2⟩ | ⟨rfl, h1, h2⟩ | ⟨rfl, h1, h2⟩ | ⟨rfl, h1, h2⟩ | ⟨rfl, h1, h2⟩ | ⟨rfl, h1, h2⟩ | ⟨rfl, h1⟩ <;> decide
theorem own_in1 {q : Int64} {r : Int32} (h : own_dig q r) (hn : ¬ (r = (1 : Int32))) : ¬ (r - (1 : Int32)) < 0 ∧ (r - (1 : Int32)) < (19 : Int32) := by
  rcases h with ⟨rfl, h1⟩ | ⟨rfl, h1, h2⟩ | ⟨rfl, h1, h2⟩ | ⟨rfl, h1, h2⟩ | ⟨rfl, h1, h2⟩ | ⟨rfl, h1, h2⟩ | ⟨rfl, h1, h2⟩ | ⟨rfl, h1, h2⟩ | ⟨rfl, h1, h2⟩ | ⟨rfl, h1, h2⟩ | ⟨rfl, h1, h2⟩ | ⟨rfl, h1, h2⟩ | ⟨rfl, h1, h2⟩ | ⟨rfl, h1, h2⟩ | ⟨rfl, h1, h2⟩ | ⟨rfl, h1, h2⟩ | ⟨rfl, h1, h2⟩ | ⟨rfl, h1, h2⟩ | ⟨rfl, h1⟩ <;> first | decide | exact absurd rfl hn
theorem own_in2 {q : Int64} {r : Int32} (h : own_dig q r) (hn : ¬ (r = (19 : Int32))) : ¬ r < 0 ∧ r < (19 : Int32) := by
  rcases h with ⟨rfl, h1⟩ | ⟨rfl, h1, h2⟩ | ⟨rfl, h1, h2⟩ | ⟨rfl, h1, h2⟩ | ⟨rfl, h1, h2⟩ | ⟨rfl, h1, h2⟩ | ⟨rfl, h1, h2⟩ | ⟨rfl, h1, h2⟩ | ⟨rfl, h1, h2⟩ | ⟨rfl, h1, h2⟩ | ⟨rfl, h1, h2⟩ | ⟨rfl, h1, h2⟩ | ⟨rfl, h1, h2⟩ | ⟨rfl, h1, h2⟩ | ⟨rfl, h1, h2⟩ | ⟨rfl, h1, h2⟩ | ⟨rfl, h1, h2⟩ | ⟨rfl, h1, h2⟩ | ⟨rfl, h1⟩ <;> first | decide | exact absurd rfl hn
theorem own_low {q : Int64} {r : Int32} (h : own_dig q r) (hn : ¬ (r = (1 : Int32))) : ¬ (lcmpW q (own_p (r - (1 : Int32))) < (0 : Int32)) := by
  intro hl
  rw [lw_lt] at hl
  rcases h with ⟨rfl, h1⟩ | ⟨rfl, h1, h2⟩ | ⟨rfl, h1, h2⟩ | ⟨rfl, h1, h2⟩ | ⟨rfl, h1, h2⟩ | ⟨rfl, h1, h2⟩ | ⟨rfl, h1, h2⟩ | ⟨rfl, h1, h2⟩ | ⟨rfl, h1, h2⟩ | ⟨rfl, h1, h2⟩ | ⟨rfl, h1, h2⟩ | ⟨rfl, h1, h2⟩ | ⟨rfl, h1, h2⟩ | ⟨rfl, h1, h2⟩ | ⟨rfl, h1, h2⟩ | ⟨rfl, h1, h2⟩ | ⟨rfl, h1, h2⟩ | ⟨rfl, h1, h2⟩ | ⟨rfl, h1⟩ <;> first | exact h1 hl | exact absurd rfl hn
theorem own_high {q : Int64} {r : Int32} (h : own_dig q r) (hn : ¬ (r = (19 : Int32))) : lcmpW q (own_p r) < (0 : Int32) := by
  rw [lw_lt]
  rcases h with ⟨rfl, h1⟩ | ⟨rfl, h1, h2⟩ | ⟨rfl, h1, h2⟩ | ⟨rfl, h1, h2⟩ | ⟨rfl, h1, h2⟩ | ⟨rfl, h1, h2⟩ | ⟨rfl, h1, h2⟩ | ⟨rfl, h1, h2⟩ | ⟨rfl, h1, h2⟩ | ⟨rfl, h1, h2⟩ | ⟨rfl, h1, h2⟩ | ⟨rfl, h1, h2⟩ | ⟨rfl, h1, h2⟩ | ⟨rfl, h1, h2⟩ | ⟨rfl, h1, h2⟩ | ⟨rfl, h1, h2⟩ | ⟨rfl, h1, h2⟩ | ⟨rfl, h1, h2⟩ | ⟨rfl, h1⟩ <;> first | exact h2 | exact h1 | exact absurd rfl hn
theorem d1_0 : decode jdk_29_method_66_code 0 = .ok (.lload_n 0, 1) := by decide +kernel
theorem d1_1 : decode jdk_29_method_66_code 1 = .ok (.lload_n 2, 1) := by decide +kernel
theorem d1_2 : decode jdk_29_method_66_code 2 = .ok (.lcmp, 1) := by decide +kernel
theorem d1_3 : decode jdk_29_method_66_code 3 = .ok (.ifCond .lt 7, 3) := by decide +kernel
theorem d1_6 : decode jdk_29_method_66_code 6 = .ok (.lload_n 0, 1) := by decide +kernel
theorem d1_7 : decode jdk_29_method_66_code 7 = .ok (.goto 4, 3) := by decide +kernel
theorem d1_10 : decode jdk_29_method_66_code 10 = .ok (.lload_n 2, 1) := by decide +kernel
theorem d1_11 : decode jdk_29_method_66_code 11 = .ok (.lreturn, 1) := by decide +kernel
theorem ef_rm1 (m : MethodId) (x0 : Int64) (x1 : Int64) : entryFrame m #[(.long x0), (.long x1)] 4 = mkF m 0 #[.val (.long x0), .second, .val (.long x1), .second] [] := by first | (simp [entryFrame, mkF, argsToLocals, Value.category]; done) | rfl
def Q1 (Z : State) (q0 : Int64) (q1 : Int64) (h0 : Heap) (n0 : Nat) (v : Option Value) (h : Heap) (L : List Loc) : Prop := (∃ r : Int64, v = some (.long r)) ∧ Fr n0 L ∧ h = h0
set_option maxRecDepth 65536 in
set_option maxHeartbeats 40000000 in
theorem rm1 (l : Launch) (Z : State) (a0 : Array Value) (hw : ∀ d ∈ tables_1, d.before a0 Z = true) (ws : List Jvm.Cond) (q0 : Int64) (q1 : Int64) (h0 : Heap) (n0 : Nat) (Z0 : n0 ≤ h0.size)  :
    MetFree l (⟨"java/lang/Math", "max", "(JJ)J"⟩ : MethodName) (head1 (Jvm.Cond.code (⟨"java/lang/Math", "max", "(JJ)J"⟩ : MethodName) jdk_29_method_66_code 4 (some .long) :: ws) ({ frames := 0, cells := 0, slots := 0, locals := 0 } : Room)) (fun a U => a = #[(.long q0), (.long q1)] ∧ Z.Warmed39 U.vm ∧ U.heap = h0) (fun _ _ _ _ _ => True) (fun _ U o U' => ∃ v L, o = .returned v ∧ Q1 Z q0 q1 h0 n0 v U'.heap L ∧ FrameEnd U o U' L ({ frames := 0, cells := 0, slots := 0, locals := 0 } : Room).cells ({ frames := 0, cells := 0, slots := 0, locals := 0 } : Room).slots) := by
  refine MetFree.of_bodySF (Jvm.Free.JP.mathPlain rfl (by decide +kernel)) hisR ?_
  intro p e s0 m args below meth c s₁ Bd hml0 hP hK
  obtain ⟨rfl, hZ, hh⟩ := hP
  have hx := Bd.exec
  have hby := Bd.bytes
  have hml : c.maxLocals = 4 := hml0
  have hown : s0.vm.findClass "java/lang/Math" = some m.cls := findClass_of_methodNamed Bd.named
  have hnm := (name_of_methodNamed Bd.named Bd.method).1
  have X0 : Stand p l e ({ frames := 0, cells := 0, slots := 0, locals := 0 } : Room) s0 m #[(.long q0), (.long q1)] below meth c s₁ [] 0 0 := Stand.of_body Bd
  have e0 : s₁.heap = h0 := by rw [← hh, Bd.state]; rfl
  have N0 := Fr.nil n0
  have pre0 : ∀ t, Steps p.tables e below (s₁.setTop (mkF m 0 #[.val (.long q0), .second, .val (.long q1), .second] [])) t → Steps p.tables e below (s₁.setTop (entryFrame m #[(.long q0), (.long q1)] 4)) t := fun t k => castTop (ef_rm1 m q0 q1) k
  have pre1 : ∀ t, Steps p.tables e below (s₁.setTop (mkF m 3 #[.val (.long q0), .second, .val (.long q1), .second] [(.int (lcmpW q0 q1))])) t → Steps p.tables e below (s₁.setTop (entryFrame m #[(.long q0), (.long q1)] 4)) t := fun t k => by
    refine pre0 t ?_
    show Steps p.tables e below (s₁.setTop (mkF m 0 #[.val (.long q0), .second, .val (.long q1), .second] [])) _
    refine XS.lloadN X0.here hx rfl (hb hby d1_0) rfl ?_
    show Steps p.tables e below (s₁.setTop (mkF m 1 #[.val (.long q0), .second, .val (.long q1), .second] [(.long q0)])) _
    refine XS.lloadN X0.here hx rfl (hb hby d1_1) rfl ?_
    show Steps p.tables e below (s₁.setTop (mkF m 2 #[.val (.long q0), .second, .val (.long q1), .second] [(.long q1), (.long q0)])) _
    refine XS.lcmp X0.here hx rfl (hb hby d1_2) rfl ?_
    exact k
  by_cases hc3_2 : (lcmpW q0 q1) < (0 : Int32)
  · have pre3 : ∀ t, Steps p.tables e below (s₁.setTop (mkF m 11 #[.val (.long q0), .second, .val (.long q1), .second] [(.long q1)])) t → Steps p.tables e below (s₁.setTop (entryFrame m #[(.long q0), (.long q1)] 4)) t := fun t k => by
      refine pre1 t ?_
      show Steps p.tables e below (s₁.setTop (mkF m 3 #[.val (.long q0), .second, .val (.long q1), .second] [(.int (lcmpW q0 q1))])) _
      refine XS.ifYes X0.here hx rfl (pc0 := 3) (pc' := 10) rfl (hb hby d1_3) rfl ((if0 _ _).trans (tlt hc3_2).1) (by decide) (by decide) ?_
      show Steps p.tables e below (s₁.setTop (mkF m 10 #[.val (.long q0), .second, .val (.long q1), .second] [])) _
      refine XS.lloadN X0.here hx rfl (hb hby d1_10) rfl ?_
      exact k
    obtain ⟨fs, hrq, hrun, hended, hW, hsame⟩ := X0.leave (v := some (.long q1)) (fun h => by rw [Bd.returns] at h; cases h)
    refine ⟨_, _, pre3 _ ?_, hrun, hended, _, _, rfl, ?_, ⟨_, rfl⟩, hW, hsame.mono (by decide) (by decide)⟩
    · show Steps p.tables e below (s₁.setTop (mkF m 11 #[.val (.long q0), .second, .val (.long q1), .second] [(.long q1)])) _
      exact retOut X0 hx Bd.returns rfl (Or.inr (Or.inl ⟨rfl, rfl, _, rfl⟩)) (hb hby d1_11) hrq
    · show Q1 Z q0 q1 h0 n0 _ s₁.heap _
      rw [e0]
      exact ⟨⟨_, rfl⟩, N0, rfl⟩
  · have pre4 : ∀ t, Steps p.tables e below (s₁.setTop (mkF m 11 #[.val (.long q0), .second, .val (.long q1), .second] [(.long q0)])) t → Steps p.tables e below (s₁.setTop (entryFrame m #[(.long q0), (.long q1)] 4)) t := fun t k => by
      refine pre1 t ?_
      show Steps p.tables e below (s₁.setTop (mkF m 3 #[.val (.long q0), .second, .val (.long q1), .second] [(.int (lcmpW q0 q1))])) _
      refine XS.ifNo X0.here hx rfl (hb hby d1_3) rfl ((if0 _ _).trans (flt hc3_2).1) ?_
      show Steps p.tables e below (s₁.setTop (mkF m 6 #[.val (.long q0), .second, .val (.long q1), .second] [])) _
      refine XS.lloadN X0.here hx rfl (hb hby d1_6) rfl ?_
      show Steps p.tables e below (s₁.setTop (mkF m 7 #[.val (.long q0), .second, .val (.long q1), .second] [(.long q0)])) _
      refine XS.goto X0.here hx rfl (pc0 := 7) (pc' := 11) rfl (hb hby d1_7) (by decide) (by decide) ?_
      exact k
    obtain ⟨fs, hrq, hrun, hended, hW, hsame⟩ := X0.leave (v := some (.long q0)) (fun h => by rw [Bd.returns] at h; cases h)
    refine ⟨_, _, pre4 _ ?_, hrun, hended, _, _, rfl, ?_, ⟨_, rfl⟩, hW, hsame.mono (by decide) (by decide)⟩
    · show Steps p.tables e below (s₁.setTop (mkF m 11 #[.val (.long q0), .second, .val (.long q1), .second] [(.long q0)])) _
      exact retOut X0 hx Bd.returns rfl (Or.inr (Or.inl ⟨rfl, rfl, _, rfl⟩)) (hb hby d1_11) hrq
    · show Q1 Z q0 q1 h0 n0 _ s₁.heap _
      rw [e0]
      exact ⟨⟨_, rfl⟩, N0, rfl⟩
theorem d2_0 : decode prog_29_method_3_code 0 = .ok (.iconst 1, 1) := by decide +kernel
theorem d2_1 : decode prog_29_method_3_code 1 = .ok (.istore_n 2, 1) := by decide +kernel
theorem d2_2 : decode prog_29_method_3_code 2 = .ok (.ldc2_w 25, 3) := by decide +kernel
theorem d2_5 : decode prog_29_method_3_code 5 = .ok (.lstore_n 3, 1) := by decide +kernel
theorem d2_6 : decode prog_29_method_3_code 6 = .ok (.iload_n 2, 1) := by decide +kernel
theorem d2_7 : decode prog_29_method_3_code 7 = .ok (.bipush 19, 2) := by decide +kernel
theorem d2_9 : decode prog_29_method_3_code 9 = .ok (.if_icmp .ge 21, 3) := by decide +kernel
theorem d2_12 : decode prog_29_method_3_code 12 = .ok (.lload_n 0, 1) := by decide +kernel
theorem d2_13 : decode prog_29_method_3_code 13 = .ok (.lload_n 3, 1) := by decide +kernel
theorem d2_14 : decode prog_29_method_3_code 14 = .ok (.lcmp, 1) := by decide +kernel
theorem d2_15 : decode prog_29_method_3_code 15 = .ok (.ifCond .lt 15, 3) := by decide +kernel
theorem d2_18 : decode prog_29_method_3_code 18 = .ok (.iinc 2 1, 3) := by decide +kernel
theorem d2_21 : decode prog_29_method_3_code 21 = .ok (.lload_n 3, 1) := by decide +kernel
theorem d2_22 : decode prog_29_method_3_code 22 = .ok (.ldc2_w 25, 3) := by decide +kernel
theorem d2_25 : decode prog_29_method_3_code 25 = .ok (.lmul, 1) := by decide +kernel
theorem d2_26 : decode prog_29_method_3_code 26 = .ok (.lstore_n 3, 1) := by decide +kernel
theorem d2_27 : decode prog_29_method_3_code 27 = .ok (.goto (-21), 3) := by decide +kernel
theorem d2_30 : decode prog_29_method_3_code 30 = .ok (.iload_n 2, 1) := by decide +kernel
theorem d2_31 : decode prog_29_method_3_code 31 = .ok (.ireturn, 1) := by decide +kernel
theorem ef_rm2 (m : MethodId) (x0 : Int64) : entryFrame m #[(.long x0)] 5 = mkF m 0 #[.val (.long x0), .second, .unset, .unset, .unset] [] := by first | (simp [entryFrame, mkF, argsToLocals, Value.category]; done) | rfl
theorem pn_0 : plainName "quorumkeep/base/Ascii" = true := by first | (simp [plainName, overriddenIn]; done) | decide +kernel
def Q2 (Z : State) (q0 : Int64) (h0 : Heap) (n0 : Nat) (v : Option Value) (h : Heap) (L : List Loc) : Prop := ∃ r : Int32, v = some (.int r) ∧ Fr n0 L ∧ h = h0 ∧ own_dig q0 r
set_option maxRecDepth 65536 in
set_option maxHeartbeats 40000000 in
theorem rm2 (l : Launch) (Z : State) (a0 : Array Value) (hw : ∀ d ∈ tables_1, d.before a0 Z = true) (ws : List Jvm.Cond) (q0 : Int64) (h0 : Heap) (n0 : Nat) (Z0 : n0 ≤ h0.size)  :
    MetFree l (⟨"quorumkeep/base/Ascii", "digits", "(J)I"⟩ : MethodName) (head1 (Jvm.Cond.code (⟨"quorumkeep/base/Ascii", "digits", "(J)I"⟩ : MethodName) prog_29_method_3_code 5 (some .int) :: ws) ({ frames := 0, cells := 0, slots := 0, locals := 0 } : Room)) (fun a U => a = #[(.long q0)] ∧ Z.Warmed39 U.vm ∧ U.heap = h0) (fun _ _ _ _ _ => True) (fun _ U o U' => ∃ v L, o = .returned v ∧ Q2 Z q0 h0 n0 v U'.heap L ∧ FrameEnd U o U' L ({ frames := 0, cells := 0, slots := 0, locals := 0 } : Room).cells ({ frames := 0, cells := 0, slots := 0, locals := 0 } : Room).slots) := by
  refine MetFree.of_bodySF (plainFor_of_name pn_0) hisR ?_
  intro p e s0 m args below meth c s₁ Bd hml0 hP hK
  obtain ⟨rfl, hZ, hh⟩ := hP
  have hx := Bd.exec
  have hby := Bd.bytes
  have hml : c.maxLocals = 5 := hml0
  have hown : s0.vm.findClass "quorumkeep/base/Ascii" = some m.cls := findClass_of_methodNamed Bd.named
  have hnm := (name_of_methodNamed Bd.named Bd.method).1
  have X0 : Stand p l e ({ frames := 0, cells := 0, slots := 0, locals := 0 } : Room) s0 m #[(.long q0)] below meth c s₁ [] 0 0 := Stand.of_body Bd
  have e0 : s₁.heap = h0 := by rw [← hh, Bd.state]; rfl
  have N0 := Fr.nil n0
  have pre0 : ∀ t, Steps p.tables e below (s₁.setTop (mkF m 0 #[.val (.long q0), .second, .unset, .unset, .unset] [])) t → Steps p.tables e below (s₁.setTop (entryFrame m #[(.long q0)] 5)) t := fun t k => castTop (ef_rm2 m q0) k
  have pre1 : ∀ t, Steps p.tables e below (s₁.setTop (mkF m 15 #[.val (.long q0), .second, .val (.int (1 : Int32)), .val (.long (10 : Int64)), .second] [(.int (lcmpW q0 (10 : Int64)))])) t → Steps p.tables e below (s₁.setTop (entryFrame m #[(.long q0)] 5)) t := fun t k => by
    refine pre0 t ?_
    show Steps p.tables e below (s₁.setTop (mkF m 0 #[.val (.long q0), .second, .unset, .unset, .unset] [])) _
    refine XS.iconst X0.here hx rfl (hb hby d2_0) ?_
    show Steps p.tables e below (s₁.setTop (mkF m 1 #[.val (.long q0), .second, .unset, .unset, .unset] [(.int (1 : Int32))])) _
    refine XS.istoreN X0.here hx rfl (hb hby d2_1) rfl (l' := #[.val (.long q0), .second, .val (.int (1 : Int32)), .unset, .unset]) rfl ?_
    show Steps p.tables e below (s₁.setTop (mkF m 2 #[.val (.long q0), .second, .val (.int (1 : Int32)), .unset, .unset] [])) _
    refine X0.ldc2Long hx hown (mvT hZ (hw _ (List.mem_of_getElem? (i := 30) rfl))) (g := (mkF m 2 #[.val (.long q0), .second, .val (.int (1 : Int32)), .unset, .unset] [])) rfl (hb hby d2_2) _ ?_
    show Steps p.tables e below (s₁.setTop (mkF m 5 #[.val (.long q0), .second, .val (.int (1 : Int32)), .unset, .unset] [(.long (10 : Int64))])) _
    refine XS.lstoreN X0.here hx rfl (hb hby d2_5) rfl (l' := #[.val (.long q0), .second, .val (.int (1 : Int32)), .val (.long (10 : Int64)), .second]) rfl ?_
    show Steps p.tables e below (s₁.setTop (mkF m 6 #[.val (.long q0), .second, .val (.int (1 : Int32)), .val (.long (10 : Int64)), .second] [])) _
    refine XS.iloadN X0.here hx rfl (hb hby d2_6) rfl ?_
    show Steps p.tables e below (s₁.setTop (mkF m 7 #[.val (.long q0), .second, .val (.int (1 : Int32)), .val (.long (10 : Int64)), .second] [(.int (1 : Int32))])) _
    refine XS.bipush X0.here hx rfl (hb hby d2_7) ?_
    show Steps p.tables e below (s₁.setTop (mkF m 9 #[.val (.long q0), .second, .val (.int (1 : Int32)), .val (.long (10 : Int64)), .second] [(.int (19 : Int32)), (.int (1 : Int32))])) _
    refine XS.icmpNo X0.here hx rfl (hb hby d2_9) rfl (tlt (by decide : (1 : Int32) < (19 : Int32))).2.1 ?_
    show Steps p.tables e below (s₁.setTop (mkF m 12 #[.val (.long q0), .second, .val (.int (1 : Int32)), .val (.long (10 : Int64)), .second] [])) _
    refine XS.lloadN X0.here hx rfl (hb hby d2_12) rfl ?_
    show Steps p.tables e below (s₁.setTop (mkF m 13 #[.val (.long q0), .second, .val (.int (1 : Int32)), .val (.long (10 : Int64)), .second] [(.long q0)])) _
    refine XS.lloadN X0.here hx rfl (hb hby d2_13) rfl ?_
    show Steps p.tables e below (s₁.setTop (mkF m 14 #[.val (.long q0), .second, .val (.int (1 : Int32)), .val (.long (10 : Int64)), .second] [(.long (10 : Int64)), (.long q0)])) _
    refine XS.lcmp X0.here hx rfl (hb hby d2_14) rfl ?_
    exact k
  by_cases hc15_2 : (lcmpW q0 (10 : Int64)) < (0 : Int32)
  · have pre3 : ∀ t, Steps p.tables e below (s₁.setTop (mkF m 31 #[.val (.long q0), .second, .val (.int (1 : Int32)), .val (.long (10 : Int64)), .second] [(.int (1 : Int32))])) t → Steps p.tables e below (s₁.setTop (entryFrame m #[(.long q0)] 5)) t := fun t k => by
      refine pre1 t ?_
      show Steps p.tables e below (s₁.setTop (mkF m 15 #[.val (.long q0), .second, .val (.int (1 : Int32)), .val (.long (10 : Int64)), .second] [(.int (lcmpW q0 (10 : Int64)))])) _
      refine XS.ifYes X0.here hx rfl (pc0 := 15) (pc' := 30) rfl (hb hby d2_15) rfl ((if0 _ _).trans (tlt hc15_2).1) (by decide) (by decide) ?_
      show Steps p.tables e below (s₁.setTop (mkF m 30 #[.val (.long q0), .second, .val (.int (1 : Int32)), .val (.long (10 : Int64)), .second] [])) _
      refine XS.iloadN X0.here hx rfl (hb hby d2_30) rfl ?_
      exact k
    obtain ⟨fs, hrq, hrun, hended, hW, hsame⟩ := X0.leave (v := some (.int (1 : Int32))) (fun h => by rw [Bd.returns] at h; cases h)
    refine ⟨_, _, pre3 _ ?_, hrun, hended, _, _, rfl, ?_, ⟨_, rfl⟩, hW, hsame.mono (by decide) (by decide)⟩
    · show Steps p.tables e below (s₁.setTop (mkF m 31 #[.val (.long q0), .second, .val (.int (1 : Int32)), .val (.long (10 : Int64)), .second] [(.int (1 : Int32))])) _
      exact retI X0 hx Bd.returns (hb hby d2_31) hrq
    · show Q2 Z q0 h0 n0 _ s₁.heap _
      rw [e0]
      exact ⟨_, rfl, N0, rfl, (Or.inl ⟨rfl, ((lw_lt _ _).mp hc15_2)⟩)⟩
  · have pre4 : ∀ t, Steps p.tables e below (s₁.setTop (mkF m 15 #[.val (.long q0), .second, .val (.int (2 : Int32)), .val (.long (100 : Int64)), .second] [(.int (lcmpW q0 (100 : Int64)))])) t → Steps p.tables e below (s₁.setTop (entryFrame m #[(.long q0)] 5)) t := fun t k => by
      refine pre1 t ?_
      show Steps p.tables e below (s₁.setTop (mkF m 15 #[.val (.long q0), .second, .val (.int (1 : Int32)), .val (.long (10 : Int64)), .second] [(.int (lcmpW q0 (10 : Int64)))])) _
      refine XS.ifNo X0.here hx rfl (hb hby d2_15) rfl ((if0 _ _).trans (flt hc15_2).1) ?_
      show Steps p.tables e below (s₁.setTop (mkF m 18 #[.val (.long q0), .second, .val (.int (1 : Int32)), .val (.long (10 : Int64)), .second] [])) _
      refine XS.iinc X0.here hx rfl (hb hby d2_18) rfl (l' := #[.val (.long q0), .second, .val (.int (2 : Int32)), .val (.long (10 : Int64)), .second]) rfl ?_
      show Steps p.tables e below (s₁.setTop (mkF m 21 #[.val (.long q0), .second, .val (.int (2 : Int32)), .val (.long (10 : Int64)), .second] [])) _
      refine XS.lloadN X0.here hx rfl (hb hby d2_21) rfl ?_
      show Steps p.tables e below (s₁.setTop (mkF m 22 #[.val (.long q0), .second, .val (.int (2 : Int32)), .val (.long (10 : Int64)), .second] [(.long (10 : Int64))])) _
      refine X0.ldc2Long hx hown (mvT hZ (hw _ (List.mem_of_getElem? (i := 30) rfl))) (g := (mkF m 22 #[.val (.long q0), .second, .val (.int (2 : Int32)), .val (.long (10 : Int64)), .second] [(.long (10 : Int64))])) rfl (hb hby d2_22) _ ?_
      show Steps p.tables e below (s₁.setTop (mkF m 25 #[.val (.long q0), .second, .val (.int (2 : Int32)), .val (.long (10 : Int64)), .second] [(.long (10 : Int64)), (.long (10 : Int64))])) _
      refine XS.lmul X0.here hx rfl (hb hby d2_25) rfl ?_
      show Steps p.tables e below (s₁.setTop (mkF m 26 #[.val (.long q0), .second, .val (.int (2 : Int32)), .val (.long (10 : Int64)), .second] [(.long (100 : Int64))])) _
      refine XS.lstoreN X0.here hx rfl (hb hby d2_26) rfl (l' := #[.val (.long q0), .second, .val (.int (2 : Int32)), .val (.long (100 : Int64)), .second]) rfl ?_
      show Steps p.tables e below (s₁.setTop (mkF m 27 #[.val (.long q0), .second, .val (.int (2 : Int32)), .val (.long (100 : Int64)), .second] [])) _
      refine XS.goto X0.here hx rfl (pc0 := 27) (pc' := 6) rfl (hb hby d2_27) (by decide) (by decide) ?_
      show Steps p.tables e below (s₁.setTop (mkF m 6 #[.val (.long q0), .second, .val (.int (2 : Int32)), .val (.long (100 : Int64)), .second] [])) _
      refine XS.iloadN X0.here hx rfl (hb hby d2_6) rfl ?_
      show Steps p.tables e below (s₁.setTop (mkF m 7 #[.val (.long q0), .second, .val (.int (2 : Int32)), .val (.long (100 : Int64)), .second] [(.int (2 : Int32))])) _
      refine XS.bipush X0.here hx rfl (hb hby d2_7) ?_
      show Steps p.tables e below (s₁.setTop (mkF m 9 #[.val (.long q0), .second, .val (.int (2 : Int32)), .val (.long (100 : Int64)), .second] [(.int (19 : Int32)), (.int (2 : Int32))])) _
      refine XS.icmpNo X0.here hx rfl (hb hby d2_9) rfl (tlt (by decide : (2 : Int32) < (19 : Int32))).2.1 ?_
      show Steps p.tables e below (s₁.setTop (mkF m 12 #[.val (.long q0), .second, .val (.int (2 : Int32)), .val (.long (100 : Int64)), .second] [])) _
      refine XS.lloadN X0.here hx rfl (hb hby d2_12) rfl ?_
      show Steps p.tables e below (s₁.setTop (mkF m 13 #[.val (.long q0), .second, .val (.int (2 : Int32)), .val (.long (100 : Int64)), .second] [(.long q0)])) _
      refine XS.lloadN X0.here hx rfl (hb hby d2_13) rfl ?_
      show Steps p.tables e below (s₁.setTop (mkF m 14 #[.val (.long q0), .second, .val (.int (2 : Int32)), .val (.long (100 : Int64)), .second] [(.long (100 : Int64)), (.long q0)])) _
      refine XS.lcmp X0.here hx rfl (hb hby d2_14) rfl ?_
      exact k
    by_cases hc15_5 : (lcmpW q0 (100 : Int64)) < (0 : Int32)
    · have pre6 : ∀ t, Steps p.tables e below (s₁.setTop (mkF m 31 #[.val (.long q0), .second, .val (.int (2 : Int32)), .val (.long (100 : Int64)), .second] [(.int (2 : Int32))])) t → Steps p.tables e below (s₁.setTop (entryFrame m #[(.long q0)] 5)) t := fun t k => by
        refine pre4 t ?_
        show Steps p.tables e below (s₁.setTop (mkF m 15 #[.val (.long q0), .second, .val (.int (2 : Int32)), .val (.long (100 : Int64)), .second] [(.int (lcmpW q0 (100 : Int64)))])) _
        refine XS.ifYes X0.here hx rfl (pc0 := 15) (pc' := 30) rfl (hb hby d2_15) rfl ((if0 _ _).trans (tlt hc15_5).1) (by decide) (by decide) ?_
        show Steps p.tables e below (s₁.setTop (mkF m 30 #[.val (.long q0), .second, .val (.int (2 : Int32)), .val (.long (100 : Int64)), .second] [])) _
        refine XS.iloadN X0.here hx rfl (hb hby d2_30) rfl ?_
        exact k
      obtain ⟨fs, hrq, hrun, hended, hW, hsame⟩ := X0.leave (v := some (.int (2 : Int32))) (fun h => by rw [Bd.returns] at h; cases h)
      refine ⟨_, _, pre6 _ ?_, hrun, hended, _, _, rfl, ?_, ⟨_, rfl⟩, hW, hsame.mono (by decide) (by decide)⟩
      · show Steps p.tables e below (s₁.setTop (mkF m 31 #[.val (.long q0), .second, .val (.int (2 : Int32)), .val (.long (100 : Int64)), .second] [(.int (2 : Int32))])) _
        exact retI X0 hx Bd.returns (hb hby d2_31) hrq
      · show Q2 Z q0 h0 n0 _ s₁.heap _
        rw [e0]
        exact ⟨_, rfl, N0, rfl, (Or.inr (Or.inl ⟨rfl, (fun z => hc15_2 ((lw_lt _ _).mpr z)), ((lw_lt _ _).mp hc15_5)⟩))⟩
    · have pre7 : ∀ t, Steps p.tables e below (s₁.setTop (mkF m 15 #[.val (.long q0), .second, .val (.int (3 : Int32)), .val (.long (1000 : Int64)), .second] [(.int (lcmpW q0 (1000 : Int64)))])) t → Steps p.tables e below (s₁.setTop (entryFrame m #[(.long q0)] 5)) t := fun t k => by
        refine pre4 t ?_
        show Steps p.tables e below (s₁.setTop (mkF m 15 #[.val (.long q0), .second, .val (.int (2 : Int32)), .val (.long (100 : Int64)), .second] [(.int (lcmpW q0 (100 : Int64)))])) _
        refine XS.ifNo X0.here hx rfl (hb hby d2_15) rfl ((if0 _ _).trans (flt hc15_5).1) ?_
        show Steps p.tables e below (s₁.setTop (mkF m 18 #[.val (.long q0), .second, .val (.int (2 : Int32)), .val (.long (100 : Int64)), .second] [])) _
        refine XS.iinc X0.here hx rfl (hb hby d2_18) rfl (l' := #[.val (.long q0), .second, .val (.int (3 : Int32)), .val (.long (100 : Int64)), .second]) rfl ?_
        show Steps p.tables e below (s₁.setTop (mkF m 21 #[.val (.long q0), .second, .val (.int (3 : Int32)), .val (.long (100 : Int64)), .second] [])) _
        refine XS.lloadN X0.here hx rfl (hb hby d2_21) rfl ?_
        show Steps p.tables e below (s₁.setTop (mkF m 22 #[.val (.long q0), .second, .val (.int (3 : Int32)), .val (.long (100 : Int64)), .second] [(.long (100 : Int64))])) _
        refine X0.ldc2Long hx hown (mvT hZ (hw _ (List.mem_of_getElem? (i := 30) rfl))) (g := (mkF m 22 #[.val (.long q0), .second, .val (.int (3 : Int32)), .val (.long (100 : Int64)), .second] [(.long (100 : Int64))])) rfl (hb hby d2_22) _ ?_
        show Steps p.tables e below (s₁.setTop (mkF m 25 #[.val (.long q0), .second, .val (.int (3 : Int32)), .val (.long (100 : Int64)), .second] [(.long (10 : Int64)), (.long (100 : Int64))])) _
        refine XS.lmul X0.here hx rfl (hb hby d2_25) rfl ?_
        show Steps p.tables e below (s₁.setTop (mkF m 26 #[.val (.long q0), .second, .val (.int (3 : Int32)), .val (.long (100 : Int64)), .second] [(.long (1000 : Int64))])) _
        refine XS.lstoreN X0.here hx rfl (hb hby d2_26) rfl (l' := #[.val (.long q0), .second, .val (.int (3 : Int32)), .val (.long (1000 : Int64)), .second]) rfl ?_
        show Steps p.tables e below (s₁.setTop (mkF m 27 #[.val (.long q0), .second, .val (.int (3 : Int32)), .val (.long (1000 : Int64)), .second] [])) _
        refine XS.goto X0.here hx rfl (pc0 := 27) (pc' := 6) rfl (hb hby d2_27) (by decide) (by decide) ?_
        show Steps p.tables e below (s₁.setTop (mkF m 6 #[.val (.long q0), .second, .val (.int (3 : Int32)), .val (.long (1000 : Int64)), .second] [])) _
        refine XS.iloadN X0.here hx rfl (hb hby d2_6) rfl ?_
        show Steps p.tables e below (s₁.setTop (mkF m 7 #[.val (.long q0), .second, .val (.int (3 : Int32)), .val (.long (1000 : Int64)), .second] [(.int (3 : Int32))])) _
        refine XS.bipush X0.here hx rfl (hb hby d2_7) ?_
        show Steps p.tables e below (s₁.setTop (mkF m 9 #[.val (.long q0), .second, .val (.int (3 : Int32)), .val (.long (1000 : Int64)), .second] [(.int (19 : Int32)), (.int (3 : Int32))])) _
        refine XS.icmpNo X0.here hx rfl (hb hby d2_9) rfl (tlt (by decide : (3 : Int32) < (19 : Int32))).2.1 ?_
        show Steps p.tables e below (s₁.setTop (mkF m 12 #[.val (.long q0), .second, .val (.int (3 : Int32)), .val (.long (1000 : Int64)), .second] [])) _
        refine XS.lloadN X0.here hx rfl (hb hby d2_12) rfl ?_
        show Steps p.tables e below (s₁.setTop (mkF m 13 #[.val (.long q0), .second, .val (.int (3 : Int32)), .val (.long (1000 : Int64)), .second] [(.long q0)])) _
        refine XS.lloadN X0.here hx rfl (hb hby d2_13) rfl ?_
        show Steps p.tables e below (s₁.setTop (mkF m 14 #[.val (.long q0), .second, .val (.int (3 : Int32)), .val (.long (1000 : Int64)), .second] [(.long (1000 : Int64)), (.long q0)])) _
        refine XS.lcmp X0.here hx rfl (hb hby d2_14) rfl ?_
        exact k
      by_cases hc15_8 : (lcmpW q0 (1000 : Int64)) < (0 : Int32)
      · have pre9 : ∀ t, Steps p.tables e below (s₁.setTop (mkF m 31 #[.val (.long q0), .second, .val (.int (3 : Int32)), .val (.long (1000 : Int64)), .second] [(.int (3 : Int32))])) t → Steps p.tables e below (s₁.setTop (entryFrame m #[(.long q0)] 5)) t := fun t k => by
          refine pre7 t ?_
          show Steps p.tables e below (s₁.setTop (mkF m 15 #[.val (.long q0), .second, .val (.int (3 : Int32)), .val (.long (1000 : Int64)), .second] [(.int (lcmpW q0 (1000 : Int64)))])) _
          refine XS.ifYes X0.here hx rfl (pc0 := 15) (pc' := 30) rfl (hb hby d2_15) rfl ((if0 _ _).trans (tlt hc15_8).1) (by decide) (by decide) ?_
          show Steps p.tables e below (s₁.setTop (mkF m 30 #[.val (.long q0), .second, .val (.int (3 : Int32)), .val (.long (1000 : Int64)), .second] [])) _
          refine XS.iloadN X0.here hx rfl (hb hby d2_30) rfl ?_
          exact k
        obtain ⟨fs, hrq, hrun, hended, hW, hsame⟩ := X0.leave (v := some (.int (3 : Int32))) (fun h => by rw [Bd.returns] at h; cases h)
        refine ⟨_, _, pre9 _ ?_, hrun, hended, _, _, rfl, ?_, ⟨_, rfl⟩, hW, hsame.mono (by decide) (by decide)⟩
        · show Steps p.tables e below (s₁.setTop (mkF m 31 #[.val (.long q0), .second, .val (.int (3 : Int32)), .val (.long (1000 : Int64)), .second] [(.int (3 : Int32))])) _
          exact retI X0 hx Bd.returns (hb hby d2_31) hrq
        · show Q2 Z q0 h0 n0 _ s₁.heap _
          rw [e0]
          exact ⟨_, rfl, N0, rfl, (Or.inr (Or.inr (Or.inl ⟨rfl, (fun z => hc15_5 ((lw_lt _ _).mpr z)), ((lw_lt _ _).mp hc15_8)⟩)))⟩
      · have pre10 : ∀ t, Steps p.tables e below (s₁.setTop (mkF m 15 #[.val (.long q0), .second, .val (.int (4 : Int32)), .val (.long (10000 : Int64)), .second] [(.int (lcmpW q0 (10000 : Int64)))])) t → Steps p.tables e below (s₁.setTop (entryFrame m #[(.long q0)] 5)) t := fun t k => by
          refine pre7 t ?_
          show Steps p.tables e below (s₁.setTop (mkF m 15 #[.val (.long q0), .second, .val (.int (3 : Int32)), .val (.long (1000 : Int64)), .second] [(.int (lcmpW q0 (1000 : Int64)))])) _
          refine XS.ifNo X0.here hx rfl (hb hby d2_15) rfl ((if0 _ _).trans (flt hc15_8).1) ?_
          show Steps p.tables e below (s₁.setTop (mkF m 18 #[.val (.long q0), .second, .val (.int (3 : Int32)), .val (.long (1000 : Int64)), .second] [])) _
          refine XS.iinc X0.here hx rfl (hb hby d2_18) rfl (l' := #[.val (.long q0), .second, .val (.int (4 : Int32)), .val (.long (1000 : Int64)), .second]) rfl ?_
          show Steps p.tables e below (s₁.setTop (mkF m 21 #[.val (.long q0), .second, .val (.int (4 : Int32)), .val (.long (1000 : Int64)), .second] [])) _
          refine XS.lloadN X0.here hx rfl (hb hby d2_21) rfl ?_
          show Steps p.tables e below (s₁.setTop (mkF m 22 #[.val (.long q0), .second, .val (.int (4 : Int32)), .val (.long (1000 : Int64)), .second] [(.long (1000 : Int64))])) _
          refine X0.ldc2Long hx hown (mvT hZ (hw _ (List.mem_of_getElem? (i := 30) rfl))) (g := (mkF m 22 #[.val (.long q0), .second, .val (.int (4 : Int32)), .val (.long (1000 : Int64)), .second] [(.long (1000 : Int64))])) rfl (hb hby d2_22) _ ?_
          show Steps p.tables e below (s₁.setTop (mkF m 25 #[.val (.long q0), .second, .val (.int (4 : Int32)), .val (.long (1000 : Int64)), .second] [(.long (10 : Int64)), (.long (1000 : Int64))])) _
          refine XS.lmul X0.here hx rfl (hb hby d2_25) rfl ?_
          show Steps p.tables e below (s₁.setTop (mkF m 26 #[.val (.long q0), .second, .val (.int (4 : Int32)), .val (.long (1000 : Int64)), .second] [(.long (10000 : Int64))])) _
          refine XS.lstoreN X0.here hx rfl (hb hby d2_26) rfl (l' := #[.val (.long q0), .second, .val (.int (4 : Int32)), .val (.long (10000 : Int64)), .second]) rfl ?_
          show Steps p.tables e below (s₁.setTop (mkF m 27 #[.val (.long q0), .second, .val (.int (4 : Int32)), .val (.long (10000 : Int64)), .second] [])) _
          refine XS.goto X0.here hx rfl (pc0 := 27) (pc' := 6) rfl (hb hby d2_27) (by decide) (by decide) ?_
          show Steps p.tables e below (s₁.setTop (mkF m 6 #[.val (.long q0), .second, .val (.int (4 : Int32)), .val (.long (10000 : Int64)), .second] [])) _
          refine XS.iloadN X0.here hx rfl (hb hby d2_6) rfl ?_
          show Steps p.tables e below (s₁.setTop (mkF m 7 #[.val (.long q0), .second, .val (.int (4 : Int32)), .val (.long (10000 : Int64)), .second] [(.int (4 : Int32))])) _
          refine XS.bipush X0.here hx rfl (hb hby d2_7) ?_
          show Steps p.tables e below (s₁.setTop (mkF m 9 #[.val (.long q0), .second, .val (.int (4 : Int32)), .val (.long (10000 : Int64)), .second] [(.int (19 : Int32)), (.int (4 : Int32))])) _
          refine XS.icmpNo X0.here hx rfl (hb hby d2_9) rfl (tlt (by decide : (4 : Int32) < (19 : Int32))).2.1 ?_
          show Steps p.tables e below (s₁.setTop (mkF m 12 #[.val (.long q0), .second, .val (.int (4 : Int32)), .val (.long (10000 : Int64)), .second] [])) _
          refine XS.lloadN X0.here hx rfl (hb hby d2_12) rfl ?_
          show Steps p.tables e below (s₁.setTop (mkF m 13 #[.val (.long q0), .second, .val (.int (4 : Int32)), .val (.long (10000 : Int64)), .second] [(.long q0)])) _
          refine XS.lloadN X0.here hx rfl (hb hby d2_13) rfl ?_
          show Steps p.tables e below (s₁.setTop (mkF m 14 #[.val (.long q0), .second, .val (.int (4 : Int32)), .val (.long (10000 : Int64)), .second] [(.long (10000 : Int64)), (.long q0)])) _
          refine XS.lcmp X0.here hx rfl (hb hby d2_14) rfl ?_
          exact k
        by_cases hc15_11 : (lcmpW q0 (10000 : Int64)) < (0 : Int32)
        · have pre12 : ∀ t, Steps p.tables e below (s₁.setTop (mkF m 31 #[.val (.long q0), .second, .val (.int (4 : Int32)), .val (.long (10000 : Int64)), .second] [(.int (4 : Int32))])) t → Steps p.tables e below (s₁.setTop (entryFrame m #[(.long q0)] 5)) t := fun t k => by
            refine pre10 t ?_
            show Steps p.tables e below (s₁.setTop (mkF m 15 #[.val (.long q0), .second, .val (.int (4 : Int32)), .val (.long (10000 : Int64)), .second] [(.int (lcmpW q0 (10000 : Int64)))])) _
            refine XS.ifYes X0.here hx rfl (pc0 := 15) (pc' := 30) rfl (hb hby d2_15) rfl ((if0 _ _).trans (tlt hc15_11).1) (by decide) (by decide) ?_
            show Steps p.tables e below (s₁.setTop (mkF m 30 #[.val (.long q0), .second, .val (.int (4 : Int32)), .val (.long (10000 : Int64)), .second] [])) _
            refine XS.iloadN X0.here hx rfl (hb hby d2_30) rfl ?_
            exact k
          obtain ⟨fs, hrq, hrun, hended, hW, hsame⟩ := X0.leave (v := some (.int (4 : Int32))) (fun h => by rw [Bd.returns] at h; cases h)
          refine ⟨_, _, pre12 _ ?_, hrun, hended, _, _, rfl, ?_, ⟨_, rfl⟩, hW, hsame.mono (by decide) (by decide)⟩
          · show Steps p.tables e below (s₁.setTop (mkF m 31 #[.val (.long q0), .second, .val (.int (4 : Int32)), .val (.long (10000 : Int64)), .second] [(.int (4 : Int32))])) _
            exact retI X0 hx Bd.returns (hb hby d2_31) hrq
          · show Q2 Z q0 h0 n0 _ s₁.heap _
            rw [e0]
            exact ⟨_, rfl, N0, rfl, (Or.inr (Or.inr (Or.inr (Or.inl ⟨rfl, (fun z => hc15_8 ((lw_lt _ _).mpr z)), ((lw_lt _ _).mp hc15_11)⟩))))⟩
        · have pre13 : ∀ t, Steps p.tables e below (s₁.setTop (mkF m 15 #[.val (.long q0), .second, .val (.int (5 : Int32)), .val (.long (100000 : Int64)), .second] [(.int (lcmpW q0 (100000 : Int64)))])) t → Steps p.tables e below (s₁.setTop (entryFrame m #[(.long q0)] 5)) t := fun t k => by
            refine pre10 t ?_
            show Steps p.tables e below (s₁.setTop (mkF m 15 #[.val (.long q0), .second, .val (.int (4 : Int32)), .val (.long (10000 : Int64)), .second] [(.int (lcmpW q0 (10000 : Int64)))])) _
            refine XS.ifNo X0.here hx rfl (hb hby d2_15) rfl ((if0 _ _).trans (flt hc15_11).1) ?_
            show Steps p.tables e below (s₁.setTop (mkF m 18 #[.val (.long q0), .second, .val (.int (4 : Int32)), .val (.long (10000 : Int64)), .second] [])) _
            refine XS.iinc X0.here hx rfl (hb hby d2_18) rfl (l' := #[.val (.long q0), .second, .val (.int (5 : Int32)), .val (.long (10000 : Int64)), .second]) rfl ?_
            show Steps p.tables e below (s₁.setTop (mkF m 21 #[.val (.long q0), .second, .val (.int (5 : Int32)), .val (.long (10000 : Int64)), .second] [])) _
            refine XS.lloadN X0.here hx rfl (hb hby d2_21) rfl ?_
            show Steps p.tables e below (s₁.setTop (mkF m 22 #[.val (.long q0), .second, .val (.int (5 : Int32)), .val (.long (10000 : Int64)), .second] [(.long (10000 : Int64))])) _
            refine X0.ldc2Long hx hown (mvT hZ (hw _ (List.mem_of_getElem? (i := 30) rfl))) (g := (mkF m 22 #[.val (.long q0), .second, .val (.int (5 : Int32)), .val (.long (10000 : Int64)), .second] [(.long (10000 : Int64))])) rfl (hb hby d2_22) _ ?_
            show Steps p.tables e below (s₁.setTop (mkF m 25 #[.val (.long q0), .second, .val (.int (5 : Int32)), .val (.long (10000 : Int64)), .second] [(.long (10 : Int64)), (.long (10000 : Int64))])) _
            refine XS.lmul X0.here hx rfl (hb hby d2_25) rfl ?_
            show Steps p.tables e below (s₁.setTop (mkF m 26 #[.val (.long q0), .second, .val (.int (5 : Int32)), .val (.long (10000 : Int64)), .second] [(.long (100000 : Int64))])) _
            refine XS.lstoreN X0.here hx rfl (hb hby d2_26) rfl (l' := #[.val (.long q0), .second, .val (.int (5 : Int32)), .val (.long (100000 : Int64)), .second]) rfl ?_
            show Steps p.tables e below (s₁.setTop (mkF m 27 #[.val (.long q0), .second, .val (.int (5 : Int32)), .val (.long (100000 : Int64)), .second] [])) _
            refine XS.goto X0.here hx rfl (pc0 := 27) (pc' := 6) rfl (hb hby d2_27) (by decide) (by decide) ?_
            show Steps p.tables e below (s₁.setTop (mkF m 6 #[.val (.long q0), .second, .val (.int (5 : Int32)), .val (.long (100000 : Int64)), .second] [])) _
            refine XS.iloadN X0.here hx rfl (hb hby d2_6) rfl ?_
            show Steps p.tables e below (s₁.setTop (mkF m 7 #[.val (.long q0), .second, .val (.int (5 : Int32)), .val (.long (100000 : Int64)), .second] [(.int (5 : Int32))])) _
            refine XS.bipush X0.here hx rfl (hb hby d2_7) ?_
            show Steps p.tables e below (s₁.setTop (mkF m 9 #[.val (.long q0), .second, .val (.int (5 : Int32)), .val (.long (100000 : Int64)), .second] [(.int (19 : Int32)), (.int (5 : Int32))])) _
            refine XS.icmpNo X0.here hx rfl (hb hby d2_9) rfl (tlt (by decide : (5 : Int32) < (19 : Int32))).2.1 ?_
            show Steps p.tables e below (s₁.setTop (mkF m 12 #[.val (.long q0), .second, .val (.int (5 : Int32)), .val (.long (100000 : Int64)), .second] [])) _
            refine XS.lloadN X0.here hx rfl (hb hby d2_12) rfl ?_
            show Steps p.tables e below (s₁.setTop (mkF m 13 #[.val (.long q0), .second, .val (.int (5 : Int32)), .val (.long (100000 : Int64)), .second] [(.long q0)])) _
            refine XS.lloadN X0.here hx rfl (hb hby d2_13) rfl ?_
            show Steps p.tables e below (s₁.setTop (mkF m 14 #[.val (.long q0), .second, .val (.int (5 : Int32)), .val (.long (100000 : Int64)), .second] [(.long (100000 : Int64)), (.long q0)])) _
            refine XS.lcmp X0.here hx rfl (hb hby d2_14) rfl ?_
            exact k
          by_cases hc15_14 : (lcmpW q0 (100000 : Int64)) < (0 : Int32)
          · have pre15 : ∀ t, Steps p.tables e below (s₁.setTop (mkF m 31 #[.val (.long q0), .second, .val (.int (5 : Int32)), .val (.long (100000 : Int64)), .second] [(.int (5 : Int32))])) t → Steps p.tables e below (s₁.setTop (entryFrame m #[(.long q0)] 5)) t := fun t k => by
              refine pre13 t ?_
              show Steps p.tables e below (s₁.setTop (mkF m 15 #[.val (.long q0), .second, .val (.int (5 : Int32)), .val (.long (100000 : Int64)), .second] [(.int (lcmpW q0 (100000 : Int64)))])) _
              refine XS.ifYes X0.here hx rfl (pc0 := 15) (pc' := 30) rfl (hb hby d2_15) rfl ((if0 _ _).trans (tlt hc15_14).1) (by decide) (by decide) ?_
              show Steps p.tables e below (s₁.setTop (mkF m 30 #[.val (.long q0), .second, .val (.int (5 : Int32)), .val (.long (100000 : Int64)), .second] [])) _
              refine XS.iloadN X0.here hx rfl (hb hby d2_30) rfl ?_
              exact k
            obtain ⟨fs, hrq, hrun, hended, hW, hsame⟩ := X0.leave (v := some (.int (5 : Int32))) (fun h => by rw [Bd.returns] at h; cases h)
            refine ⟨_, _, pre15 _ ?_, hrun, hended, _, _, rfl, ?_, ⟨_, rfl⟩, hW, hsame.mono (by decide) (by decide)⟩
            · show Steps p.tables e below (s₁.setTop (mkF m 31 #[.val (.long q0), .second, .val (.int (5 : Int32)), .val (.long (100000 : Int64)), .second] [(.int (5 : Int32))])) _
              exact retI X0 hx Bd.returns (hb hby d2_31) hrq
            · show Q2 Z q0 h0 n0 _ s₁.heap _
              rw [e0]
              exact ⟨_, rfl, N0, rfl, (Or.inr (Or.inr (Or.inr (Or.inr (Or.inl ⟨rfl, (fun z => hc15_11 ((lw_lt _ _).mpr z)), ((lw_lt _ _).mp hc15_14)⟩)))))⟩
          · have pre16 : ∀ t, Steps p.tables e below (s₁.setTop (mkF m 15 #[.val (.long q0), .second, .val (.int (6 : Int32)), .val (.long (1000000 : Int64)), .second] [(.int (lcmpW q0 (1000000 : Int64)))])) t → Steps p.tables e below (s₁.setTop (entryFrame m #[(.long q0)] 5)) t := fun t k => by
              refine pre13 t ?_
              show Steps p.tables e below (s₁.setTop (mkF m 15 #[.val (.long q0), .second, .val (.int (5 : Int32)), .val (.long (100000 : Int64)), .second] [(.int (lcmpW q0 (100000 : Int64)))])) _
              refine XS.ifNo X0.here hx rfl (hb hby d2_15) rfl ((if0 _ _).trans (flt hc15_14).1) ?_
              show Steps p.tables e below (s₁.setTop (mkF m 18 #[.val (.long q0), .second, .val (.int (5 : Int32)), .val (.long (100000 : Int64)), .second] [])) _
              refine XS.iinc X0.here hx rfl (hb hby d2_18) rfl (l' := #[.val (.long q0), .second, .val (.int (6 : Int32)), .val (.long (100000 : Int64)), .second]) rfl ?_
              show Steps p.tables e below (s₁.setTop (mkF m 21 #[.val (.long q0), .second, .val (.int (6 : Int32)), .val (.long (100000 : Int64)), .second] [])) _
              refine XS.lloadN X0.here hx rfl (hb hby d2_21) rfl ?_
              show Steps p.tables e below (s₁.setTop (mkF m 22 #[.val (.long q0), .second, .val (.int (6 : Int32)), .val (.long (100000 : Int64)), .second] [(.long (100000 : Int64))])) _
              refine X0.ldc2Long hx hown (mvT hZ (hw _ (List.mem_of_getElem? (i := 30) rfl))) (g := (mkF m 22 #[.val (.long q0), .second, .val (.int (6 : Int32)), .val (.long (100000 : Int64)), .second] [(.long (100000 : Int64))])) rfl (hb hby d2_22) _ ?_
              show Steps p.tables e below (s₁.setTop (mkF m 25 #[.val (.long q0), .second, .val (.int (6 : Int32)), .val (.long (100000 : Int64)), .second] [(.long (10 : Int64)), (.long (100000 : Int64))])) _
              refine XS.lmul X0.here hx rfl (hb hby d2_25) rfl ?_
              show Steps p.tables e below (s₁.setTop (mkF m 26 #[.val (.long q0), .second, .val (.int (6 : Int32)), .val (.long (100000 : Int64)), .second] [(.long (1000000 : Int64))])) _
              refine XS.lstoreN X0.here hx rfl (hb hby d2_26) rfl (l' := #[.val (.long q0), .second, .val (.int (6 : Int32)), .val (.long (1000000 : Int64)), .second]) rfl ?_
              show Steps p.tables e below (s₁.setTop (mkF m 27 #[.val (.long q0), .second, .val (.int (6 : Int32)), .val (.long (1000000 : Int64)), .second] [])) _
              refine XS.goto X0.here hx rfl (pc0 := 27) (pc' := 6) rfl (hb hby d2_27) (by decide) (by decide) ?_
              show Steps p.tables e below (s₁.setTop (mkF m 6 #[.val (.long q0), .second, .val (.int (6 : Int32)), .val (.long (1000000 : Int64)), .second] [])) _
              refine XS.iloadN X0.here hx rfl (hb hby d2_6) rfl ?_
              show Steps p.tables e below (s₁.setTop (mkF m 7 #[.val (.long q0), .second, .val (.int (6 : Int32)), .val (.long (1000000 : Int64)), .second] [(.int (6 : Int32))])) _
              refine XS.bipush X0.here hx rfl (hb hby d2_7) ?_
              show Steps p.tables e below (s₁.setTop (mkF m 9 #[.val (.long q0), .second, .val (.int (6 : Int32)), .val (.long (1000000 : Int64)), .second] [(.int (19 : Int32)), (.int (6 : Int32))])) _
              refine XS.icmpNo X0.here hx rfl (hb hby d2_9) rfl (tlt (by decide : (6 : Int32) < (19 : Int32))).2.1 ?_
              show Steps p.tables e below (s₁.setTop (mkF m 12 #[.val (.long q0), .second, .val (.int (6 : Int32)), .val (.long (1000000 : Int64)), .second] [])) _
              refine XS.lloadN X0.here hx rfl (hb hby d2_12) rfl ?_
              show Steps p.tables e below (s₁.setTop (mkF m 13 #[.val (.long q0), .second, .val (.int (6 : Int32)), .val (.long (1000000 : Int64)), .second] [(.long q0)])) _
              refine XS.lloadN X0.here hx rfl (hb hby d2_13) rfl ?_
              show Steps p.tables e below (s₁.setTop (mkF m 14 #[.val (.long q0), .second, .val (.int (6 : Int32)), .val (.long (1000000 : Int64)), .second] [(.long (1000000 : Int64)), (.long q0)])) _
              refine XS.lcmp X0.here hx rfl (hb hby d2_14) rfl ?_
              exact k
            by_cases hc15_17 : (lcmpW q0 (1000000 : Int64)) < (0 : Int32)
            · have pre18 : ∀ t, Steps p.tables e below (s₁.setTop (mkF m 31 #[.val (.long q0), .second, .val (.int (6 : Int32)), .val (.long (1000000 : Int64)), .second] [(.int (6 : Int32))])) t → Steps p.tables e below (s₁.setTop (entryFrame m #[(.long q0)] 5)) t := fun t k => by
                refine pre16 t ?_
                show Steps p.tables e below (s₁.setTop (mkF m 15 #[.val (.long q0), .second, .val (.int (6 : Int32)), .val (.long (1000000 : Int64)), .second] [(.int (lcmpW q0 (1000000 : Int64)))])) _
                refine XS.ifYes X0.here hx rfl (pc0 := 15) (pc' := 30) rfl (hb hby d2_15) rfl ((if0 _ _).trans (tlt hc15_17).1) (by decide) (by decide) ?_
                show Steps p.tables e below (s₁.setTop (mkF m 30 #[.val (.long q0), .second, .val (.int (6 : Int32)), .val (.long (1000000 : Int64)), .second] [])) _
                refine XS.iloadN X0.here hx rfl (hb hby d2_30) rfl ?_
                exact k
              obtain ⟨fs, hrq, hrun, hended, hW, hsame⟩ := X0.leave (v := some (.int (6 : Int32))) (fun h => by rw [Bd.returns] at h; cases h)
              refine ⟨_, _, pre18 _ ?_, hrun, hended, _, _, rfl, ?_, ⟨_, rfl⟩, hW, hsame.mono (by decide) (by decide)⟩
              · show Steps p.tables e below (s₁.setTop (mkF m 31 #[.val (.long q0), .second, .val (.int (6 : Int32)), .val (.long (1000000 : Int64)), .second] [(.int (6 : Int32))])) _
                exact retI X0 hx Bd.returns (hb hby d2_31) hrq
              · show Q2 Z q0 h0 n0 _ s₁.heap _
                rw [e0]
                exact ⟨_, rfl, N0, rfl, (Or.inr (Or.inr (Or.inr (Or.inr (Or.inr (Or.inl ⟨rfl, (fun z => hc15_14 ((lw_lt _ _).mpr z)), ((lw_lt _ _).mp hc15_17)⟩))))))⟩
            · have pre19 : ∀ t, Steps p.tables e below (s₁.setTop (mkF m 15 #[.val (.long q0), .second, .val (.int (7 : Int32)), .val (.long (10000000 : Int64)), .second] [(.int (lcmpW q0 (10000000 : Int64)))])) t → Steps p.tables e below (s₁.setTop (entryFrame m #[(.long q0)] 5)) t := fun t k => by
                refine pre16 t ?_
                show Steps p.tables e below (s₁.setTop (mkF m 15 #[.val (.long q0), .second, .val (.int (6 : Int32)), .val (.long (1000000 : Int64)), .second] [(.int (lcmpW q0 (1000000 : Int64)))])) _
                refine XS.ifNo X0.here hx rfl (hb hby d2_15) rfl ((if0 _ _).trans (flt hc15_17).1) ?_
                show Steps p.tables e below (s₁.setTop (mkF m 18 #[.val (.long q0), .second, .val (.int (6 : Int32)), .val (.long (1000000 : Int64)), .second] [])) _
                refine XS.iinc X0.here hx rfl (hb hby d2_18) rfl (l' := #[.val (.long q0), .second, .val (.int (7 : Int32)), .val (.long (1000000 : Int64)), .second]) rfl ?_
                show Steps p.tables e below (s₁.setTop (mkF m 21 #[.val (.long q0), .second, .val (.int (7 : Int32)), .val (.long (1000000 : Int64)), .second] [])) _
                refine XS.lloadN X0.here hx rfl (hb hby d2_21) rfl ?_
                show Steps p.tables e below (s₁.setTop (mkF m 22 #[.val (.long q0), .second, .val (.int (7 : Int32)), .val (.long (1000000 : Int64)), .second] [(.long (1000000 : Int64))])) _
                refine X0.ldc2Long hx hown (mvT hZ (hw _ (List.mem_of_getElem? (i := 30) rfl))) (g := (mkF m 22 #[.val (.long q0), .second, .val (.int (7 : Int32)), .val (.long (1000000 : Int64)), .second] [(.long (1000000 : Int64))])) rfl (hb hby d2_22) _ ?_
                show Steps p.tables e below (s₁.setTop (mkF m 25 #[.val (.long q0), .second, .val (.int (7 : Int32)), .val (.long (1000000 : Int64)), .second] [(.long (10 : Int64)), (.long (1000000 : Int64))])) _
                refine XS.lmul X0.here hx rfl (hb hby d2_25) rfl ?_
                show Steps p.tables e below (s₁.setTop (mkF m 26 #[.val (.long q0), .second, .val (.int (7 : Int32)), .val (.long (1000000 : Int64)), .second] [(.long (10000000 : Int64))])) _
                refine XS.lstoreN X0.here hx rfl (hb hby d2_26) rfl (l' := #[.val (.long q0), .second, .val (.int (7 : Int32)), .val (.long (10000000 : Int64)), .second]) rfl ?_
                show Steps p.tables e below (s₁.setTop (mkF m 27 #[.val (.long q0), .second, .val (.int (7 : Int32)), .val (.long (10000000 : Int64)), .second] [])) _
                refine XS.goto X0.here hx rfl (pc0 := 27) (pc' := 6) rfl (hb hby d2_27) (by decide) (by decide) ?_
                show Steps p.tables e below (s₁.setTop (mkF m 6 #[.val (.long q0), .second, .val (.int (7 : Int32)), .val (.long (10000000 : Int64)), .second] [])) _
                refine XS.iloadN X0.here hx rfl (hb hby d2_6) rfl ?_
                show Steps p.tables e below (s₁.setTop (mkF m 7 #[.val (.long q0), .second, .val (.int (7 : Int32)), .val (.long (10000000 : Int64)), .second] [(.int (7 : Int32))])) _
                refine XS.bipush X0.here hx rfl (hb hby d2_7) ?_
                show Steps p.tables e below (s₁.setTop (mkF m 9 #[.val (.long q0), .second, .val (.int (7 : Int32)), .val (.long (10000000 : Int64)), .second] [(.int (19 : Int32)), (.int (7 : Int32))])) _
                refine XS.icmpNo X0.here hx rfl (hb hby d2_9) rfl (tlt (by decide : (7 : Int32) < (19 : Int32))).2.1 ?_
                show Steps p.tables e below (s₁.setTop (mkF m 12 #[.val (.long q0), .second, .val (.int (7 : Int32)), .val (.long (10000000 : Int64)), .second] [])) _
                refine XS.lloadN X0.here hx rfl (hb hby d2_12) rfl ?_
                show Steps p.tables e below (s₁.setTop (mkF m 13 #[.val (.long q0), .second, .val (.int (7 : Int32)), .val (.long (10000000 : Int64)), .second] [(.long q0)])) _
                refine XS.lloadN X0.here hx rfl (hb hby d2_13) rfl ?_
                show Steps p.tables e below (s₁.setTop (mkF m 14 #[.val (.long q0), .second, .val (.int (7 : Int32)), .val (.long (10000000 : Int64)), .second] [(.long (10000000 : Int64)), (.long q0)])) _
                refine XS.lcmp X0.here hx rfl (hb hby d2_14) rfl ?_
                exact k
              by_cases hc15_20 : (lcmpW q0 (10000000 : Int64)) < (0 : Int32)
              · have pre21 : ∀ t, Steps p.tables e below (s₁.setTop (mkF m 31 #[.val (.long q0), .second, .val (.int (7 : Int32)), .val (.long (10000000 : Int64)), .second] [(.int (7 : Int32))])) t → Steps p.tables e below (s₁.setTop (entryFrame m #[(.long q0)] 5)) t := fun t k => by
                  refine pre19 t ?_
                  show Steps p.tables e below (s₁.setTop (mkF m 15 #[.val (.long q0), .second, .val (.int (7 : Int32)), .val (.long (10000000 : Int64)), .second] [(.int (lcmpW q0 (10000000 : Int64)))])) _
                  refine XS.ifYes X0.here hx rfl (pc0 := 15) (pc' := 30) rfl (hb hby d2_15) rfl ((if0 _ _).trans (tlt hc15_20).1) (by decide) (by decide) ?_
                  show Steps p.tables e below (s₁.setTop (mkF m 30 #[.val (.long q0), .second, .val (.int (7 : Int32)), .val (.long (10000000 : Int64)), .second] [])) _
                  refine XS.iloadN X0.here hx rfl (hb hby d2_30) rfl ?_
                  exact k
                obtain ⟨fs, hrq, hrun, hended, hW, hsame⟩ := X0.leave (v := some (.int (7 : Int32))) (fun h => by rw [Bd.returns] at h; cases h)
                refine ⟨_, _, pre21 _ ?_, hrun, hended, _, _, rfl, ?_, ⟨_, rfl⟩, hW, hsame.mono (by decide) (by decide)⟩
                · show Steps p.tables e below (s₁.setTop (mkF m 31 #[.val (.long q0), .second, .val (.int (7 : Int32)), .val (.long (10000000 : Int64)), .second] [(.int (7 : Int32))])) _
                  exact retI X0 hx Bd.returns (hb hby d2_31) hrq
                · show Q2 Z q0 h0 n0 _ s₁.heap _
                  rw [e0]
                  exact ⟨_, rfl, N0, rfl, (Or.inr (Or.inr (Or.inr (Or.inr (Or.inr (Or.inr (Or.inl ⟨rfl, (fun z => hc15_17 ((lw_lt _ _).mpr z)), ((lw_lt _ _).mp hc15_20)⟩)))))))⟩
              · have pre22 : ∀ t, Steps p.tables e below (s₁.setTop (mkF m 15 #[.val (.long q0), .second, .val (.int (8 : Int32)), .val (.long (100000000 : Int64)), .second] [(.int (lcmpW q0 (100000000 : Int64)))])) t → Steps p.tables e below (s₁.setTop (entryFrame m #[(.long q0)] 5)) t := fun t k => by
                  refine pre19 t ?_
                  show Steps p.tables e below (s₁.setTop (mkF m 15 #[.val (.long q0), .second, .val (.int (7 : Int32)), .val (.long (10000000 : Int64)), .second] [(.int (lcmpW q0 (10000000 : Int64)))])) _
                  refine XS.ifNo X0.here hx rfl (hb hby d2_15) rfl ((if0 _ _).trans (flt hc15_20).1) ?_
                  show Steps p.tables e below (s₁.setTop (mkF m 18 #[.val (.long q0), .second, .val (.int (7 : Int32)), .val (.long (10000000 : Int64)), .second] [])) _
                  refine XS.iinc X0.here hx rfl (hb hby d2_18) rfl (l' := #[.val (.long q0), .second, .val (.int (8 : Int32)), .val (.long (10000000 : Int64)), .second]) rfl ?_
                  show Steps p.tables e below (s₁.setTop (mkF m 21 #[.val (.long q0), .second, .val (.int (8 : Int32)), .val (.long (10000000 : Int64)), .second] [])) _
                  refine XS.lloadN X0.here hx rfl (hb hby d2_21) rfl ?_
                  show Steps p.tables e below (s₁.setTop (mkF m 22 #[.val (.long q0), .second, .val (.int (8 : Int32)), .val (.long (10000000 : Int64)), .second] [(.long (10000000 : Int64))])) _
                  refine X0.ldc2Long hx hown (mvT hZ (hw _ (List.mem_of_getElem? (i := 30) rfl))) (g := (mkF m 22 #[.val (.long q0), .second, .val (.int (8 : Int32)), .val (.long (10000000 : Int64)), .second] [(.long (10000000 : Int64))])) rfl (hb hby d2_22) _ ?_
                  show Steps p.tables e below (s₁.setTop (mkF m 25 #[.val (.long q0), .second, .val (.int (8 : Int32)), .val (.long (10000000 : Int64)), .second] [(.long (10 : Int64)), (.long (10000000 : Int64))])) _
                  refine XS.lmul X0.here hx rfl (hb hby d2_25) rfl ?_
                  show Steps p.tables e below (s₁.setTop (mkF m 26 #[.val (.long q0), .second, .val (.int (8 : Int32)), .val (.long (10000000 : Int64)), .second] [(.long (100000000 : Int64))])) _
                  refine XS.lstoreN X0.here hx rfl (hb hby d2_26) rfl (l' := #[.val (.long q0), .second, .val (.int (8 : Int32)), .val (.long (100000000 : Int64)), .second]) rfl ?_
                  show Steps p.tables e below (s₁.setTop (mkF m 27 #[.val (.long q0), .second, .val (.int (8 : Int32)), .val (.long (100000000 : Int64)), .second] [])) _
                  refine XS.goto X0.here hx rfl (pc0 := 27) (pc' := 6) rfl (hb hby d2_27) (by decide) (by decide) ?_
                  show Steps p.tables e below (s₁.setTop (mkF m 6 #[.val (.long q0), .second, .val (.int (8 : Int32)), .val (.long (100000000 : Int64)), .second] [])) _
                  refine XS.iloadN X0.here hx rfl (hb hby d2_6) rfl ?_
                  show Steps p.tables e below (s₁.setTop (mkF m 7 #[.val (.long q0), .second, .val (.int (8 : Int32)), .val (.long (100000000 : Int64)), .second] [(.int (8 : Int32))])) _
                  refine XS.bipush X0.here hx rfl (hb hby d2_7) ?_
                  show Steps p.tables e below (s₁.setTop (mkF m 9 #[.val (.long q0), .second, .val (.int (8 : Int32)), .val (.long (100000000 : Int64)), .second] [(.int (19 : Int32)), (.int (8 : Int32))])) _
                  refine XS.icmpNo X0.here hx rfl (hb hby d2_9) rfl (tlt (by decide : (8 : Int32) < (19 : Int32))).2.1 ?_
                  show Steps p.tables e below (s₁.setTop (mkF m 12 #[.val (.long q0), .second, .val (.int (8 : Int32)), .val (.long (100000000 : Int64)), .second] [])) _
                  refine XS.lloadN X0.here hx rfl (hb hby d2_12) rfl ?_
                  show Steps p.tables e below (s₁.setTop (mkF m 13 #[.val (.long q0), .second, .val (.int (8 : Int32)), .val (.long (100000000 : Int64)), .second] [(.long q0)])) _
                  refine XS.lloadN X0.here hx rfl (hb hby d2_13) rfl ?_
                  show Steps p.tables e below (s₁.setTop (mkF m 14 #[.val (.long q0), .second, .val (.int (8 : Int32)), .val (.long (100000000 : Int64)), .second] [(.long (100000000 : Int64)), (.long q0)])) _
                  refine XS.lcmp X0.here hx rfl (hb hby d2_14) rfl ?_
                  exact k
                by_cases hc15_23 : (lcmpW q0 (100000000 : Int64)) < (0 : Int32)
                · have pre24 : ∀ t, Steps p.tables e below (s₁.setTop (mkF m 31 #[.val (.long q0), .second, .val (.int (8 : Int32)), .val (.long (100000000 : Int64)), .second] [(.int (8 : Int32))])) t → Steps p.tables e below (s₁.setTop (entryFrame m #[(.long q0)] 5)) t := fun t k => by
                    refine pre22 t ?_
                    show Steps p.tables e below (s₁.setTop (mkF m 15 #[.val (.long q0), .second, .val (.int (8 : Int32)), .val (.long (100000000 : Int64)), .second] [(.int (lcmpW q0 (100000000 : Int64)))])) _
                    refine XS.ifYes X0.here hx rfl (pc0 := 15) (pc' := 30) rfl (hb hby d2_15) rfl ((if0 _ _).trans (tlt hc15_23).1) (by decide) (by decide) ?_
                    show Steps p.tables e below (s₁.setTop (mkF m 30 #[.val (.long q0), .second, .val (.int (8 : Int32)), .val (.long (100000000 : Int64)), .second] [])) _
                    refine XS.iloadN X0.here hx rfl (hb hby d2_30) rfl ?_
                    exact k
                  obtain ⟨fs, hrq, hrun, hended, hW, hsame⟩ := X0.leave (v := some (.int (8 : Int32))) (fun h => by rw [Bd.returns] at h; cases h)
                  refine ⟨_, _, pre24 _ ?_, hrun, hended, _, _, rfl, ?_, ⟨_, rfl⟩, hW, hsame.mono (by decide) (by decide)⟩
                  · show Steps p.tables e below (s₁.setTop (mkF m 31 #[.val (.long q0), .second, .val (.int (8 : Int32)), .val (.long (100000000 : Int64)), .second] [(.int (8 : Int32))])) _
                    exact retI X0 hx Bd.returns (hb hby d2_31) hrq
                  · show Q2 Z q0 h0 n0 _ s₁.heap _
                    rw [e0]
                    exact ⟨_, rfl, N0, rfl, (Or.inr (Or.inr (Or.inr (Or.inr (Or.inr (Or.inr (Or.inr (Or.inl ⟨rfl, (fun z => hc15_20 ((lw_lt _ _).mpr z)), ((lw_lt _ _).mp hc15_23)⟩))))))))⟩
                · have pre25 : ∀ t, Steps p.tables e below (s₁.setTop (mkF m 15 #[.val (.long q0), .second, .val (.int (9 : Int32)), .val (.long (1000000000 : Int64)), .second] [(.int (lcmpW q0 (1000000000 : Int64)))])) t → Steps p.tables e below (s₁.setTop (entryFrame m #[(.long q0)] 5)) t := fun t k => by
                    refine pre22 t ?_
                    show Steps p.tables e below (s₁.setTop (mkF m 15 #[.val (.long q0), .second, .val (.int (8 : Int32)), .val (.long (100000000 : Int64)), .second] [(.int (lcmpW q0 (100000000 : Int64)))])) _
                    refine XS.ifNo X0.here hx rfl (hb hby d2_15) rfl ((if0 _ _).trans (flt hc15_23).1) ?_
                    show Steps p.tables e below (s₁.setTop (mkF m 18 #[.val (.long q0), .second, .val (.int (8 : Int32)), .val (.long (100000000 : Int64)), .second] [])) _
                    refine XS.iinc X0.here hx rfl (hb hby d2_18) rfl (l' := #[.val (.long q0), .second, .val (.int (9 : Int32)), .val (.long (100000000 : Int64)), .second]) rfl ?_
                    show Steps p.tables e below (s₁.setTop (mkF m 21 #[.val (.long q0), .second, .val (.int (9 : Int32)), .val (.long (100000000 : Int64)), .second] [])) _
                    refine XS.lloadN X0.here hx rfl (hb hby d2_21) rfl ?_
                    show Steps p.tables e below (s₁.setTop (mkF m 22 #[.val (.long q0), .second, .val (.int (9 : Int32)), .val (.long (100000000 : Int64)), .second] [(.long (100000000 : Int64))])) _
                    refine X0.ldc2Long hx hown (mvT hZ (hw _ (List.mem_of_getElem? (i := 30) rfl))) (g := (mkF m 22 #[.val (.long q0), .second, .val (.int (9 : Int32)), .val (.long (100000000 : Int64)), .second] [(.long (100000000 : Int64))])) rfl (hb hby d2_22) _ ?_
                    show Steps p.tables e below (s₁.setTop (mkF m 25 #[.val (.long q0), .second, .val (.int (9 : Int32)), .val (.long (100000000 : Int64)), .second] [(.long (10 : Int64)), (.long (100000000 : Int64))])) _
                    refine XS.lmul X0.here hx rfl (hb hby d2_25) rfl ?_
                    show Steps p.tables e below (s₁.setTop (mkF m 26 #[.val (.long q0), .second, .val (.int (9 : Int32)), .val (.long (100000000 : Int64)), .second] [(.long (1000000000 : Int64))])) _
                    refine XS.lstoreN X0.here hx rfl (hb hby d2_26) rfl (l' := #[.val (.long q0), .second, .val (.int (9 : Int32)), .val (.long (1000000000 : Int64)), .second]) rfl ?_
                    show Steps p.tables e below (s₁.setTop (mkF m 27 #[.val (.long q0), .second, .val (.int (9 : Int32)), .val (.long (1000000000 : Int64)), .second] [])) _
                    refine XS.goto X0.here hx rfl (pc0 := 27) (pc' := 6) rfl (hb hby d2_27) (by decide) (by decide) ?_
                    show Steps p.tables e below (s₁.setTop (mkF m 6 #[.val (.long q0), .second, .val (.int (9 : Int32)), .val (.long (1000000000 : Int64)), .second] [])) _
                    refine XS.iloadN X0.here hx rfl (hb hby d2_6) rfl ?_
                    show Steps p.tables e below (s₁.setTop (mkF m 7 #[.val (.long q0), .second, .val (.int (9 : Int32)), .val (.long (1000000000 : Int64)), .second] [(.int (9 : Int32))])) _
                    refine XS.bipush X0.here hx rfl (hb hby d2_7) ?_
                    show Steps p.tables e below (s₁.setTop (mkF m 9 #[.val (.long q0), .second, .val (.int (9 : Int32)), .val (.long (1000000000 : Int64)), .second] [(.int (19 : Int32)), (.int (9 : Int32))])) _
                    refine XS.icmpNo X0.here hx rfl (hb hby d2_9) rfl (tlt (by decide : (9 : Int32) < (19 : Int32))).2.1 ?_
                    show Steps p.tables e below (s₁.setTop (mkF m 12 #[.val (.long q0), .second, .val (.int (9 : Int32)), .val (.long (1000000000 : Int64)), .second] [])) _
                    refine XS.lloadN X0.here hx rfl (hb hby d2_12) rfl ?_
                    show Steps p.tables e below (s₁.setTop (mkF m 13 #[.val (.long q0), .second, .val (.int (9 : Int32)), .val (.long (1000000000 : Int64)), .second] [(.long q0)])) _
                    refine XS.lloadN X0.here hx rfl (hb hby d2_13) rfl ?_
                    show Steps p.tables e below (s₁.setTop (mkF m 14 #[.val (.long q0), .second, .val (.int (9 : Int32)), .val (.long (1000000000 : Int64)), .second] [(.long (1000000000 : Int64)), (.long q0)])) _
                    refine XS.lcmp X0.here hx rfl (hb hby d2_14) rfl ?_
                    exact k
                  by_cases hc15_26 : (lcmpW q0 (1000000000 : Int64)) < (0 : Int32)
                  · have pre27 : ∀ t, Steps p.tables e below (s₁.setTop (mkF m 31 #[.val (.long q0), .second, .val (.int (9 : Int32)), .val (.long (1000000000 : Int64)), .second] [(.int (9 : Int32))])) t → Steps p.tables e below (s₁.setTop (entryFrame m #[(.long q0)] 5)) t := fun t k => by
                      refine pre25 t ?_
                      show Steps p.tables e below (s₁.setTop (mkF m 15 #[.val (.long q0), .second, .val (.int (9 : Int32)), .val (.long (1000000000 : Int64)), .second] [(.int (lcmpW q0 (1000000000 : Int64)))])) _
                      refine XS.ifYes X0.here hx rfl (pc0 := 15) (pc' := 30) rfl (hb hby d2_15) rfl ((if0 _ _).trans (tlt hc15_26).1) (by decide) (by decide) ?_
                      show Steps p.tables e below (s₁.setTop (mkF m 30 #[.val (.long q0), .second, .val (.int (9 : Int32)), .val (.long (1000000000 : Int64)), .second] [])) _
                      refine XS.iloadN X0.here hx rfl (hb hby d2_30) rfl ?_
                      exact k
                    obtain ⟨fs, hrq, hrun, hended, hW, hsame⟩ := X0.leave (v := some (.int (9 : Int32))) (fun h => by rw [Bd.returns] at h; cases h)
                    refine ⟨_, _, pre27 _ ?_, hrun, hended, _, _, rfl, ?_, ⟨_, rfl⟩, hW, hsame.mono (by decide) (by decide)⟩
                    · show Steps p.tables e below (s₁.setTop (mkF m 31 #[.val (.long q0), .second, .val (.int (9 : Int32)), .val (.long (1000000000 : Int64)), .second] [(.int (9 : Int32))])) _
                      exact retI X0 hx Bd.returns (hb hby d2_31) hrq
                    · show Q2 Z q0 h0 n0 _ s₁.heap _
                      rw [e0]
                      exact ⟨_, rfl, N0, rfl, (Or.inr (Or.inr (Or.inr (Or.inr (Or.inr (Or.inr (Or.inr (Or.inr (Or.inl ⟨rfl, (fun z => hc15_23 ((lw_lt _ _).mpr z)), ((lw_lt _ _).mp hc15_26)⟩)))))))))⟩
                  · have pre28 : ∀ t, Steps p.tables e below (s₁.setTop (mkF m 15 #[.val (.long q0), .second, .val (.int (10 : Int32)), .val (.long (10000000000 : Int64)), .second] [(.int (lcmpW q0 (10000000000 : Int64)))])) t → Steps p.tables e below (s₁.setTop (entryFrame m #[(.long q0)] 5)) t := fun t k => by
                      refine pre25 t ?_
                      show Steps p.tables e below (s₁.setTop (mkF m 15 #[.val (.long q0), .second, .val (.int (9 : Int32)), .val (.long (1000000000 : Int64)), .second] [(.int (lcmpW q0 (1000000000 : Int64)))])) _
                      refine XS.ifNo X0.here hx rfl (hb hby d2_15) rfl ((if0 _ _).trans (flt hc15_26).1) ?_
                      show Steps p.tables e below (s₁.setTop (mkF m 18 #[.val (.long q0), .second, .val (.int (9 : Int32)), .val (.long (1000000000 : Int64)), .second] [])) _
                      refine XS.iinc X0.here hx rfl (hb hby d2_18) rfl (l' := #[.val (.long q0), .second, .val (.int (10 : Int32)), .val (.long (1000000000 : Int64)), .second]) rfl ?_
                      show Steps p.tables e below (s₁.setTop (mkF m 21 #[.val (.long q0), .second, .val (.int (10 : Int32)), .val (.long (1000000000 : Int64)), .second] [])) _
                      refine XS.lloadN X0.here hx rfl (hb hby d2_21) rfl ?_
                      show Steps p.tables e below (s₁.setTop (mkF m 22 #[.val (.long q0), .second, .val (.int (10 : Int32)), .val (.long (1000000000 : Int64)), .second] [(.long (1000000000 : Int64))])) _
                      refine X0.ldc2Long hx hown (mvT hZ (hw _ (List.mem_of_getElem? (i := 30) rfl))) (g := (mkF m 22 #[.val (.long q0), .second, .val (.int (10 : Int32)), .val (.long (1000000000 : Int64)), .second] [(.long (1000000000 : Int64))])) rfl (hb hby d2_22) _ ?_
                      show Steps p.tables e below (s₁.setTop (mkF m 25 #[.val (.long q0), .second, .val (.int (10 : Int32)), .val (.long (1000000000 : Int64)), .second] [(.long (10 : Int64)), (.long (1000000000 : Int64))])) _
                      refine XS.lmul X0.here hx rfl (hb hby d2_25) rfl ?_
                      show Steps p.tables e below (s₁.setTop (mkF m 26 #[.val (.long q0), .second, .val (.int (10 : Int32)), .val (.long (1000000000 : Int64)), .second] [(.long (10000000000 : Int64))])) _
                      refine XS.lstoreN X0.here hx rfl (hb hby d2_26) rfl (l' := #[.val (.long q0), .second, .val (.int (10 : Int32)), .val (.long (10000000000 : Int64)), .second]) rfl ?_
                      show Steps p.tables e below (s₁.setTop (mkF m 27 #[.val (.long q0), .second, .val (.int (10 : Int32)), .val (.long (10000000000 : Int64)), .second] [])) _
                      refine XS.goto X0.here hx rfl (pc0 := 27) (pc' := 6) rfl (hb hby d2_27) (by decide) (by decide) ?_
                      show Steps p.tables e below (s₁.setTop (mkF m 6 #[.val (.long q0), .second, .val (.int (10 : Int32)), .val (.long (10000000000 : Int64)), .second] [])) _
                      refine XS.iloadN X0.here hx rfl (hb hby d2_6) rfl ?_
                      show Steps p.tables e below (s₁.setTop (mkF m 7 #[.val (.long q0), .second, .val (.int (10 : Int32)), .val (.long (10000000000 : Int64)), .second] [(.int (10 : Int32))])) _
                      refine XS.bipush X0.here hx rfl (hb hby d2_7) ?_
                      show Steps p.tables e below (s₁.setTop (mkF m 9 #[.val (.long q0), .second, .val (.int (10 : Int32)), .val (.long (10000000000 : Int64)), .second] [(.int (19 : Int32)), (.int (10 : Int32))])) _
                      refine XS.icmpNo X0.here hx rfl (hb hby d2_9) rfl (tlt (by decide : (10 : Int32) < (19 : Int32))).2.1 ?_
                      show Steps p.tables e below (s₁.setTop (mkF m 12 #[.val (.long q0), .second, .val (.int (10 : Int32)), .val (.long (10000000000 : Int64)), .second] [])) _
                      refine XS.lloadN X0.here hx rfl (hb hby d2_12) rfl ?_
                      show Steps p.tables e below (s₁.setTop (mkF m 13 #[.val (.long q0), .second, .val (.int (10 : Int32)), .val (.long (10000000000 : Int64)), .second] [(.long q0)])) _
                      refine XS.lloadN X0.here hx rfl (hb hby d2_13) rfl ?_
                      show Steps p.tables e below (s₁.setTop (mkF m 14 #[.val (.long q0), .second, .val (.int (10 : Int32)), .val (.long (10000000000 : Int64)), .second] [(.long (10000000000 : Int64)), (.long q0)])) _
                      refine XS.lcmp X0.here hx rfl (hb hby d2_14) rfl ?_
                      exact k
                    by_cases hc15_29 : (lcmpW q0 (10000000000 : Int64)) < (0 : Int32)
                    · have pre30 : ∀ t, Steps p.tables e below (s₁.setTop (mkF m 31 #[.val (.long q0), .second, .val (.int (10 : Int32)), .val (.long (10000000000 : Int64)), .second] [(.int (10 : Int32))])) t → Steps p.tables e below (s₁.setTop (entryFrame m #[(.long q0)] 5)) t := fun t k => by
                        refine pre28 t ?_
                        show Steps p.tables e below (s₁.setTop (mkF m 15 #[.val (.long q0), .second, .val (.int (10 : Int32)), .val (.long (10000000000 : Int64)), .second] [(.int (lcmpW q0 (10000000000 : Int64)))])) _
                        refine XS.ifYes X0.here hx rfl (pc0 := 15) (pc' := 30) rfl (hb hby d2_15) rfl ((if0 _ _).trans (tlt hc15_29).1) (by decide) (by decide) ?_
                        show Steps p.tables e below (s₁.setTop (mkF m 30 #[.val (.long q0), .second, .val (.int (10 : Int32)), .val (.long (10000000000 : Int64)), .second] [])) _
                        refine XS.iloadN X0.here hx rfl (hb hby d2_30) rfl ?_
                        exact k
                      obtain ⟨fs, hrq, hrun, hended, hW, hsame⟩ := X0.leave (v := some (.int (10 : Int32))) (fun h => by rw [Bd.returns] at h; cases h)
                      refine ⟨_, _, pre30 _ ?_, hrun, hended, _, _, rfl, ?_, ⟨_, rfl⟩, hW, hsame.mono (by decide) (by decide)⟩
                      · show Steps p.tables e below (s₁.setTop (mkF m 31 #[.val (.long q0), .second, .val (.int (10 : Int32)), .val (.long (10000000000 : Int64)), .second] [(.int (10 : Int32))])) _
                        exact retI X0 hx Bd.returns (hb hby d2_31) hrq
                      · show Q2 Z q0 h0 n0 _ s₁.heap _
                        rw [e0]
                        exact ⟨_, rfl, N0, rfl, (Or.inr (Or.inr (Or.inr (Or.inr (Or.inr (Or.inr (Or.inr (Or.inr (Or.inr (Or.inl ⟨rfl, (fun z => hc15_26 ((lw_lt _ _).mpr z)), ((lw_lt _ _).mp hc15_29)⟩))))))))))⟩
                    · have pre31 : ∀ t, Steps p.tables e below (s₁.setTop (mkF m 15 #[.val (.long q0), .second, .val (.int (11 : Int32)), .val (.long (100000000000 : Int64)), .second] [(.int (lcmpW q0 (100000000000 : Int64)))])) t → Steps p.tables e below (s₁.setTop (entryFrame m #[(.long q0)] 5)) t := fun t k => by
                        refine pre28 t ?_
                        show Steps p.tables e below (s₁.setTop (mkF m 15 #[.val (.long q0), .second, .val (.int (10 : Int32)), .val (.long (10000000000 : Int64)), .second] [(.int (lcmpW q0 (10000000000 : Int64)))])) _
                        refine XS.ifNo X0.here hx rfl (hb hby d2_15) rfl ((if0 _ _).trans (flt hc15_29).1) ?_
                        show Steps p.tables e below (s₁.setTop (mkF m 18 #[.val (.long q0), .second, .val (.int (10 : Int32)), .val (.long (10000000000 : Int64)), .second] [])) _
                        refine XS.iinc X0.here hx rfl (hb hby d2_18) rfl (l' := #[.val (.long q0), .second, .val (.int (11 : Int32)), .val (.long (10000000000 : Int64)), .second]) rfl ?_
                        show Steps p.tables e below (s₁.setTop (mkF m 21 #[.val (.long q0), .second, .val (.int (11 : Int32)), .val (.long (10000000000 : Int64)), .second] [])) _
                        refine XS.lloadN X0.here hx rfl (hb hby d2_21) rfl ?_
                        show Steps p.tables e below (s₁.setTop (mkF m 22 #[.val (.long q0), .second, .val (.int (11 : Int32)), .val (.long (10000000000 : Int64)), .second] [(.long (10000000000 : Int64))])) _
                        refine X0.ldc2Long hx hown (mvT hZ (hw _ (List.mem_of_getElem? (i := 30) rfl))) (g := (mkF m 22 #[.val (.long q0), .second, .val (.int (11 : Int32)), .val (.long (10000000000 : Int64)), .second] [(.long (10000000000 : Int64))])) rfl (hb hby d2_22) _ ?_
                        show Steps p.tables e below (s₁.setTop (mkF m 25 #[.val (.long q0), .second, .val (.int (11 : Int32)), .val (.long (10000000000 : Int64)), .second] [(.long (10 : Int64)), (.long (10000000000 : Int64))])) _
                        refine XS.lmul X0.here hx rfl (hb hby d2_25) rfl ?_
                        show Steps p.tables e below (s₁.setTop (mkF m 26 #[.val (.long q0), .second, .val (.int (11 : Int32)), .val (.long (10000000000 : Int64)), .second] [(.long (100000000000 : Int64))])) _
                        refine XS.lstoreN X0.here hx rfl (hb hby d2_26) rfl (l' := #[.val (.long q0), .second, .val (.int (11 : Int32)), .val (.long (100000000000 : Int64)), .second]) rfl ?_
                        show Steps p.tables e below (s₁.setTop (mkF m 27 #[.val (.long q0), .second, .val (.int (11 : Int32)), .val (.long (100000000000 : Int64)), .second] [])) _
                        refine XS.goto X0.here hx rfl (pc0 := 27) (pc' := 6) rfl (hb hby d2_27) (by decide) (by decide) ?_
                        show Steps p.tables e below (s₁.setTop (mkF m 6 #[.val (.long q0), .second, .val (.int (11 : Int32)), .val (.long (100000000000 : Int64)), .second] [])) _
                        refine XS.iloadN X0.here hx rfl (hb hby d2_6) rfl ?_
                        show Steps p.tables e below (s₁.setTop (mkF m 7 #[.val (.long q0), .second, .val (.int (11 : Int32)), .val (.long (100000000000 : Int64)), .second] [(.int (11 : Int32))])) _
                        refine XS.bipush X0.here hx rfl (hb hby d2_7) ?_
                        show Steps p.tables e below (s₁.setTop (mkF m 9 #[.val (.long q0), .second, .val (.int (11 : Int32)), .val (.long (100000000000 : Int64)), .second] [(.int (19 : Int32)), (.int (11 : Int32))])) _
                        refine XS.icmpNo X0.here hx rfl (hb hby d2_9) rfl (tlt (by decide : (11 : Int32) < (19 : Int32))).2.1 ?_
                        show Steps p.tables e below (s₁.setTop (mkF m 12 #[.val (.long q0), .second, .val (.int (11 : Int32)), .val (.long (100000000000 : Int64)), .second] [])) _
                        refine XS.lloadN X0.here hx rfl (hb hby d2_12) rfl ?_
                        show Steps p.tables e below (s₁.setTop (mkF m 13 #[.val (.long q0), .second, .val (.int (11 : Int32)), .val (.long (100000000000 : Int64)), .second] [(.long q0)])) _
                        refine XS.lloadN X0.here hx rfl (hb hby d2_13) rfl ?_
                        show Steps p.tables e below (s₁.setTop (mkF m 14 #[.val (.long q0), .second, .val (.int (11 : Int32)), .val (.long (100000000000 : Int64)), .second] [(.long (100000000000 : Int64)), (.long q0)])) _
                        refine XS.lcmp X0.here hx rfl (hb hby d2_14) rfl ?_
                        exact k
                      by_cases hc15_32 : (lcmpW q0 (100000000000 : Int64)) < (0 : Int32)
                      · have pre33 : ∀ t, Steps p.tables e below (s₁.setTop (mkF m 31 #[.val (.long q0), .second, .val (.int (11 : Int32)), .val (.long (100000000000 : Int64)), .second] [(.int (11 : Int32))])) t → Steps p.tables e below (s₁.setTop (entryFrame m #[(.long q0)] 5)) t := fun t k => by
                          refine pre31 t ?_
                          show Steps p.tables e below (s₁.setTop (mkF m 15 #[.val (.long q0), .second, .val (.int (11 : Int32)), .val (.long (100000000000 : Int64)), .second] [(.int (lcmpW q0 (100000000000 : Int64)))])) _
                          refine XS.ifYes X0.here hx rfl (pc0 := 15) (pc' := 30) rfl (hb hby d2_15) rfl ((if0 _ _).trans (tlt hc15_32).1) (by decide) (by decide) ?_
                          show Steps p.tables e below (s₁.setTop (mkF m 30 #[.val (.long q0), .second, .val (.int (11 : Int32)), .val (.long (100000000000 : Int64)), .second] [])) _
                          refine XS.iloadN X0.here hx rfl (hb hby d2_30) rfl ?_
                          exact k
                        obtain ⟨fs, hrq, hrun, hended, hW, hsame⟩ := X0.leave (v := some (.int (11 : Int32))) (fun h => by rw [Bd.returns] at h; cases h)
                        refine ⟨_, _, pre33 _ ?_, hrun, hended, _, _, rfl, ?_, ⟨_, rfl⟩, hW, hsame.mono (by decide) (by decide)⟩
                        · show Steps p.tables e below (s₁.setTop (mkF m 31 #[.val (.long q0), .second, .val (.int (11 : Int32)), .val (.long (100000000000 : Int64)), .second] [(.int (11 : Int32))])) _
                          exact retI X0 hx Bd.returns (hb hby d2_31) hrq
                        · show Q2 Z q0 h0 n0 _ s₁.heap _
                          rw [e0]
                          exact ⟨_, rfl, N0, rfl, (Or.inr (Or.inr (Or.inr (Or.inr (Or.inr (Or.inr (Or.inr (Or.inr (Or.inr (Or.inr (Or.inl ⟨rfl, (fun z => hc15_29 ((lw_lt _ _).mpr z)), ((lw_lt _ _).mp hc15_32)⟩)))))))))))⟩
                      · have pre34 : ∀ t, Steps p.tables e below (s₁.setTop (mkF m 15 #[.val (.long q0), .second, .val (.int (12 : Int32)), .val (.long (1000000000000 : Int64)), .second] [(.int (lcmpW q0 (1000000000000 : Int64)))])) t → Steps p.tables e below (s₁.setTop (entryFrame m #[(.long q0)] 5)) t := fun t k => by
                          refine pre31 t ?_
                          show Steps p.tables e below (s₁.setTop (mkF m 15 #[.val (.long q0), .second, .val (.int (11 : Int32)), .val (.long (100000000000 : Int64)), .second] [(.int (lcmpW q0 (100000000000 : Int64)))])) _
                          refine XS.ifNo X0.here hx rfl (hb hby d2_15) rfl ((if0 _ _).trans (flt hc15_32).1) ?_
                          show Steps p.tables e below (s₁.setTop (mkF m 18 #[.val (.long q0), .second, .val (.int (11 : Int32)), .val (.long (100000000000 : Int64)), .second] [])) _
                          refine XS.iinc X0.here hx rfl (hb hby d2_18) rfl (l' := #[.val (.long q0), .second, .val (.int (12 : Int32)), .val (.long (100000000000 : Int64)), .second]) rfl ?_
                          show Steps p.tables e below (s₁.setTop (mkF m 21 #[.val (.long q0), .second, .val (.int (12 : Int32)), .val (.long (100000000000 : Int64)), .second] [])) _
                          refine XS.lloadN X0.here hx rfl (hb hby d2_21) rfl ?_
                          show Steps p.tables e below (s₁.setTop (mkF m 22 #[.val (.long q0), .second, .val (.int (12 : Int32)), .val (.long (100000000000 : Int64)), .second] [(.long (100000000000 : Int64))])) _
                          refine X0.ldc2Long hx hown (mvT hZ (hw _ (List.mem_of_getElem? (i := 30) rfl))) (g := (mkF m 22 #[.val (.long q0), .second, .val (.int (12 : Int32)), .val (.long (100000000000 : Int64)), .second] [(.long (100000000000 : Int64))])) rfl (hb hby d2_22) _ ?_
                          show Steps p.tables e below (s₁.setTop (mkF m 25 #[.val (.long q0), .second, .val (.int (12 : Int32)), .val (.long (100000000000 : Int64)), .second] [(.long (10 : Int64)), (.long (100000000000 : Int64))])) _
                          refine XS.lmul X0.here hx rfl (hb hby d2_25) rfl ?_
                          show Steps p.tables e below (s₁.setTop (mkF m 26 #[.val (.long q0), .second, .val (.int (12 : Int32)), .val (.long (100000000000 : Int64)), .second] [(.long (1000000000000 : Int64))])) _
                          refine XS.lstoreN X0.here hx rfl (hb hby d2_26) rfl (l' := #[.val (.long q0), .second, .val (.int (12 : Int32)), .val (.long (1000000000000 : Int64)), .second]) rfl ?_
                          show Steps p.tables e below (s₁.setTop (mkF m 27 #[.val (.long q0), .second, .val (.int (12 : Int32)), .val (.long (1000000000000 : Int64)), .second] [])) _
                          refine XS.goto X0.here hx rfl (pc0 := 27) (pc' := 6) rfl (hb hby d2_27) (by decide) (by decide) ?_
                          show Steps p.tables e below (s₁.setTop (mkF m 6 #[.val (.long q0), .second, .val (.int (12 : Int32)), .val (.long (1000000000000 : Int64)), .second] [])) _
                          refine XS.iloadN X0.here hx rfl (hb hby d2_6) rfl ?_
                          show Steps p.tables e below (s₁.setTop (mkF m 7 #[.val (.long q0), .second, .val (.int (12 : Int32)), .val (.long (1000000000000 : Int64)), .second] [(.int (12 : Int32))])) _
                          refine XS.bipush X0.here hx rfl (hb hby d2_7) ?_
                          show Steps p.tables e below (s₁.setTop (mkF m 9 #[.val (.long q0), .second, .val (.int (12 : Int32)), .val (.long (1000000000000 : Int64)), .second] [(.int (19 : Int32)), (.int (12 : Int32))])) _
                          refine XS.icmpNo X0.here hx rfl (hb hby d2_9) rfl (tlt (by decide : (12 : Int32) < (19 : Int32))).2.1 ?_
                          show Steps p.tables e below (s₁.setTop (mkF m 12 #[.val (.long q0), .second, .val (.int (12 : Int32)), .val (.long (1000000000000 : Int64)), .second] [])) _
                          refine XS.lloadN X0.here hx rfl (hb hby d2_12) rfl ?_
                          show Steps p.tables e below (s₁.setTop (mkF m 13 #[.val (.long q0), .second, .val (.int (12 : Int32)), .val (.long (1000000000000 : Int64)), .second] [(.long q0)])) _
                          refine XS.lloadN X0.here hx rfl (hb hby d2_13) rfl ?_
                          show Steps p.tables e below (s₁.setTop (mkF m 14 #[.val (.long q0), .second, .val (.int (12 : Int32)), .val (.long (1000000000000 : Int64)), .second] [(.long (1000000000000 : Int64)), (.long q0)])) _
                          refine XS.lcmp X0.here hx rfl (hb hby d2_14) rfl ?_
                          exact k
                        by_cases hc15_35 : (lcmpW q0 (1000000000000 : Int64)) < (0 : Int32)
                        · have pre36 : ∀ t, Steps p.tables e below (s₁.setTop (mkF m 31 #[.val (.long q0), .second, .val (.int (12 : Int32)), .val (.long (1000000000000 : Int64)), .second] [(.int (12 : Int32))])) t → Steps p.tables e below (s₁.setTop (entryFrame m #[(.long q0)] 5)) t := fun t k => by
                            refine pre34 t ?_
                            show Steps p.tables e below (s₁.setTop (mkF m 15 #[.val (.long q0), .second, .val (.int (12 : Int32)), .val (.long (1000000000000 : Int64)), .second] [(.int (lcmpW q0 (1000000000000 : Int64)))])) _
                            refine XS.ifYes X0.here hx rfl (pc0 := 15) (pc' := 30) rfl (hb hby d2_15) rfl ((if0 _ _).trans (tlt hc15_35).1) (by decide) (by decide) ?_
                            show Steps p.tables e below (s₁.setTop (mkF m 30 #[.val (.long q0), .second, .val (.int (12 : Int32)), .val (.long (1000000000000 : Int64)), .second] [])) _
                            refine XS.iloadN X0.here hx rfl (hb hby d2_30) rfl ?_
                            exact k
                          obtain ⟨fs, hrq, hrun, hended, hW, hsame⟩ := X0.leave (v := some (.int (12 : Int32))) (fun h => by rw [Bd.returns] at h; cases h)
                          refine ⟨_, _, pre36 _ ?_, hrun, hended, _, _, rfl, ?_, ⟨_, rfl⟩, hW, hsame.mono (by decide) (by decide)⟩
                          · show Steps p.tables e below (s₁.setTop (mkF m 31 #[.val (.long q0), .second, .val (.int (12 : Int32)), .val (.long (1000000000000 : Int64)), .second] [(.int (12 : Int32))])) _
                            exact retI X0 hx Bd.returns (hb hby d2_31) hrq
                          · show Q2 Z q0 h0 n0 _ s₁.heap _
                            rw [e0]
                            exact ⟨_, rfl, N0, rfl, (Or.inr (Or.inr (Or.inr (Or.inr (Or.inr (Or.inr (Or.inr (Or.inr (Or.inr (Or.inr (Or.inr (Or.inl ⟨rfl, (fun z => hc15_32 ((lw_lt _ _).mpr z)), ((lw_lt _ _).mp hc15_35)⟩))))))))))))⟩
                        · have pre37 : ∀ t, Steps p.tables e below (s₁.setTop (mkF m 15 #[.val (.long q0), .second, .val (.int (13 : Int32)), .val (.long (10000000000000 : Int64)), .second] [(.int (lcmpW q0 (10000000000000 : Int64)))])) t → Steps p.tables e below (s₁.setTop (entryFrame m #[(.long q0)] 5)) t := fun t k => by
                            refine pre34 t ?_
                            show Steps p.tables e below (s₁.setTop (mkF m 15 #[.val (.long q0), .second, .val (.int (12 : Int32)), .val (.long (1000000000000 : Int64)), .second] [(.int (lcmpW q0 (1000000000000 : Int64)))])) _
                            refine XS.ifNo X0.here hx rfl (hb hby d2_15) rfl ((if0 _ _).trans (flt hc15_35).1) ?_
                            show Steps p.tables e below (s₁.setTop (mkF m 18 #[.val (.long q0), .second, .val (.int (12 : Int32)), .val (.long (1000000000000 : Int64)), .second] [])) _
                            refine XS.iinc X0.here hx rfl (hb hby d2_18) rfl (l' := #[.val (.long q0), .second, .val (.int (13 : Int32)), .val (.long (1000000000000 : Int64)), .second]) rfl ?_
                            show Steps p.tables e below (s₁.setTop (mkF m 21 #[.val (.long q0), .second, .val (.int (13 : Int32)), .val (.long (1000000000000 : Int64)), .second] [])) _
                            refine XS.lloadN X0.here hx rfl (hb hby d2_21) rfl ?_
                            show Steps p.tables e below (s₁.setTop (mkF m 22 #[.val (.long q0), .second, .val (.int (13 : Int32)), .val (.long (1000000000000 : Int64)), .second] [(.long (1000000000000 : Int64))])) _
                            refine X0.ldc2Long hx hown (mvT hZ (hw _ (List.mem_of_getElem? (i := 30) rfl))) (g := (mkF m 22 #[.val (.long q0), .second, .val (.int (13 : Int32)), .val (.long (1000000000000 : Int64)), .second] [(.long (1000000000000 : Int64))])) rfl (hb hby d2_22) _ ?_
                            show Steps p.tables e below (s₁.setTop (mkF m 25 #[.val (.long q0), .second, .val (.int (13 : Int32)), .val (.long (1000000000000 : Int64)), .second] [(.long (10 : Int64)), (.long (1000000000000 : Int64))])) _
                            refine XS.lmul X0.here hx rfl (hb hby d2_25) rfl ?_
                            show Steps p.tables e below (s₁.setTop (mkF m 26 #[.val (.long q0), .second, .val (.int (13 : Int32)), .val (.long (1000000000000 : Int64)), .second] [(.long (10000000000000 : Int64))])) _
                            refine XS.lstoreN X0.here hx rfl (hb hby d2_26) rfl (l' := #[.val (.long q0), .second, .val (.int (13 : Int32)), .val (.long (10000000000000 : Int64)), .second]) rfl ?_
                            show Steps p.tables e below (s₁.setTop (mkF m 27 #[.val (.long q0), .second, .val (.int (13 : Int32)), .val (.long (10000000000000 : Int64)), .second] [])) _
                            refine XS.goto X0.here hx rfl (pc0 := 27) (pc' := 6) rfl (hb hby d2_27) (by decide) (by decide) ?_
                            show Steps p.tables e below (s₁.setTop (mkF m 6 #[.val (.long q0), .second, .val (.int (13 : Int32)), .val (.long (10000000000000 : Int64)), .second] [])) _
                            refine XS.iloadN X0.here hx rfl (hb hby d2_6) rfl ?_
                            show Steps p.tables e below (s₁.setTop (mkF m 7 #[.val (.long q0), .second, .val (.int (13 : Int32)), .val (.long (10000000000000 : Int64)), .second] [(.int (13 : Int32))])) _
                            refine XS.bipush X0.here hx rfl (hb hby d2_7) ?_
                            show Steps p.tables e below (s₁.setTop (mkF m 9 #[.val (.long q0), .second, .val (.int (13 : Int32)), .val (.long (10000000000000 : Int64)), .second] [(.int (19 : Int32)), (.int (13 : Int32))])) _
                            refine XS.icmpNo X0.here hx rfl (hb hby d2_9) rfl (tlt (by decide : (13 : Int32) < (19 : Int32))).2.1 ?_
                            show Steps p.tables e below (s₁.setTop (mkF m 12 #[.val (.long q0), .second, .val (.int (13 : Int32)), .val (.long (10000000000000 : Int64)), .second] [])) _
                            refine XS.lloadN X0.here hx rfl (hb hby d2_12) rfl ?_
                            show Steps p.tables e below (s₁.setTop (mkF m 13 #[.val (.long q0), .second, .val (.int (13 : Int32)), .val (.long (10000000000000 : Int64)), .second] [(.long q0)])) _
                            refine XS.lloadN X0.here hx rfl (hb hby d2_13) rfl ?_
                            show Steps p.tables e below (s₁.setTop (mkF m 14 #[.val (.long q0), .second, .val (.int (13 : Int32)), .val (.long (10000000000000 : Int64)), .second] [(.long (10000000000000 : Int64)), (.long q0)])) _
                            refine XS.lcmp X0.here hx rfl (hb hby d2_14) rfl ?_
                            exact k
                          by_cases hc15_38 : (lcmpW q0 (10000000000000 : Int64)) < (0 : Int32)
                          · have pre39 : ∀ t, Steps p.tables e below (s₁.setTop (mkF m 31 #[.val (.long q0), .second, .val (.int (13 : Int32)), .val (.long (10000000000000 : Int64)), .second] [(.int (13 : Int32))])) t → Steps p.tables e below (s₁.setTop (entryFrame m #[(.long q0)] 5)) t := fun t k => by
                              refine pre37 t ?_
                              show Steps p.tables e below (s₁.setTop (mkF m 15 #[.val (.long q0), .second, .val (.int (13 : Int32)), .val (.long (10000000000000 : Int64)), .second] [(.int (lcmpW q0 (10000000000000 : Int64)))])) _
                              refine XS.ifYes X0.here hx rfl (pc0 := 15) (pc' := 30) rfl (hb hby d2_15) rfl ((if0 _ _).trans (tlt hc15_38).1) (by decide) (by decide) ?_
                              show Steps p.tables e below (s₁.setTop (mkF m 30 #[.val (.long q0), .second, .val (.int (13 : Int32)), .val (.long (10000000000000 : Int64)), .second] [])) _
                              refine XS.iloadN X0.here hx rfl (hb hby d2_30) rfl ?_
                              exact k
                            obtain ⟨fs, hrq, hrun, hended, hW, hsame⟩ := X0.leave (v := some (.int (13 : Int32))) (fun h => by rw [Bd.returns] at h; cases h)
                            refine ⟨_, _, pre39 _ ?_, hrun, hended, _, _, rfl, ?_, ⟨_, rfl⟩, hW, hsame.mono (by decide) (by decide)⟩
                            · show Steps p.tables e below (s₁.setTop (mkF m 31 #[.val (.long q0), .second, .val (.int (13 : Int32)), .val (.long (10000000000000 : Int64)), .second] [(.int (13 : Int32))])) _
                              exact retI X0 hx Bd.returns (hb hby d2_31) hrq
                            · show Q2 Z q0 h0 n0 _ s₁.heap _
                              rw [e0]
                              exact ⟨_, rfl, N0, rfl, (Or.inr (Or.inr (Or.inr (Or.inr (Or.inr (Or.inr (Or.inr (Or.inr (Or.inr (Or.inr (Or.inr (Or.inr (Or.inl ⟨rfl, (fun z => hc15_35 ((lw_lt _ _).mpr z)), ((lw_lt _ _).mp hc15_38)⟩)))))))))))))⟩
                          · have pre40 : ∀ t, Steps p.tables e below (s₁.setTop (mkF m 15 #[.val (.long q0), .second, .val (.int (14 : Int32)), .val (.long (100000000000000 : Int64)), .second] [(.int (lcmpW q0 (100000000000000 : Int64)))])) t → Steps p.tables e below (s₁.setTop (entryFrame m #[(.long q0)] 5)) t := fun t k => by
                              refine pre37 t ?_
                              show Steps p.tables e below (s₁.setTop (mkF m 15 #[.val (.long q0), .second, .val (.int (13 : Int32)), .val (.long (10000000000000 : Int64)), .second] [(.int (lcmpW q0 (10000000000000 : Int64)))])) _
                              refine XS.ifNo X0.here hx rfl (hb hby d2_15) rfl ((if0 _ _).trans (flt hc15_38).1) ?_
                              show Steps p.tables e below (s₁.setTop (mkF m 18 #[.val (.long q0), .second, .val (.int (13 : Int32)), .val (.long (10000000000000 : Int64)), .second] [])) _
                              refine XS.iinc X0.here hx rfl (hb hby d2_18) rfl (l' := #[.val (.long q0), .second, .val (.int (14 : Int32)), .val (.long (10000000000000 : Int64)), .second]) rfl ?_
                              show Steps p.tables e below (s₁.setTop (mkF m 21 #[.val (.long q0), .second, .val (.int (14 : Int32)), .val (.long (10000000000000 : Int64)), .second] [])) _
                              refine XS.lloadN X0.here hx rfl (hb hby d2_21) rfl ?_
                              show Steps p.tables e below (s₁.setTop (mkF m 22 #[.val (.long q0), .second, .val (.int (14 : Int32)), .val (.long (10000000000000 : Int64)), .second] [(.long (10000000000000 : Int64))])) _
                              refine X0.ldc2Long hx hown (mvT hZ (hw _ (List.mem_of_getElem? (i := 30) rfl))) (g := (mkF m 22 #[.val (.long q0), .second, .val (.int (14 : Int32)), .val (.long (10000000000000 : Int64)), .second] [(.long (10000000000000 : Int64))])) rfl (hb hby d2_22) _ ?_
                              show Steps p.tables e below (s₁.setTop (mkF m 25 #[.val (.long q0), .second, .val (.int (14 : Int32)), .val (.long (10000000000000 : Int64)), .second] [(.long (10 : Int64)), (.long (10000000000000 : Int64))])) _
                              refine XS.lmul X0.here hx rfl (hb hby d2_25) rfl ?_
                              show Steps p.tables e below (s₁.setTop (mkF m 26 #[.val (.long q0), .second, .val (.int (14 : Int32)), .val (.long (10000000000000 : Int64)), .second] [(.long (100000000000000 : Int64))])) _
                              refine XS.lstoreN X0.here hx rfl (hb hby d2_26) rfl (l' := #[.val (.long q0), .second, .val (.int (14 : Int32)), .val (.long (100000000000000 : Int64)), .second]) rfl ?_
                              show Steps p.tables e below (s₁.setTop (mkF m 27 #[.val (.long q0), .second, .val (.int (14 : Int32)), .val (.long (100000000000000 : Int64)), .second] [])) _
                              refine XS.goto X0.here hx rfl (pc0 := 27) (pc' := 6) rfl (hb hby d2_27) (by decide) (by decide) ?_
                              show Steps p.tables e below (s₁.setTop (mkF m 6 #[.val (.long q0), .second, .val (.int (14 : Int32)), .val (.long (100000000000000 : Int64)), .second] [])) _
                              refine XS.iloadN X0.here hx rfl (hb hby d2_6) rfl ?_
                              show Steps p.tables e below (s₁.setTop (mkF m 7 #[.val (.long q0), .second, .val (.int (14 : Int32)), .val (.long (100000000000000 : Int64)), .second] [(.int (14 : Int32))])) _
                              refine XS.bipush X0.here hx rfl (hb hby d2_7) ?_
                              show Steps p.tables e below (s₁.setTop (mkF m 9 #[.val (.long q0), .second, .val (.int (14 : Int32)), .val (.long (100000000000000 : Int64)), .second] [(.int (19 : Int32)), (.int (14 : Int32))])) _
                              refine XS.icmpNo X0.here hx rfl (hb hby d2_9) rfl (tlt (by decide : (14 : Int32) < (19 : Int32))).2.1 ?_
                              show Steps p.tables e below (s₁.setTop (mkF m 12 #[.val (.long q0), .second, .val (.int (14 : Int32)), .val (.long (100000000000000 : Int64)), .second] [])) _
                              refine XS.lloadN X0.here hx rfl (hb hby d2_12) rfl ?_
                              show Steps p.tables e below (s₁.setTop (mkF m 13 #[.val (.long q0), .second, .val (.int (14 : Int32)), .val (.long (100000000000000 : Int64)), .second] [(.long q0)])) _
                              refine XS.lloadN X0.here hx rfl (hb hby d2_13) rfl ?_
                              show Steps p.tables e below (s₁.setTop (mkF m 14 #[.val (.long q0), .second, .val (.int (14 : Int32)), .val (.long (100000000000000 : Int64)), .second] [(.long (100000000000000 : Int64)), (.long q0)])) _
                              refine XS.lcmp X0.here hx rfl (hb hby d2_14) rfl ?_
                              exact k
                            by_cases hc15_41 : (lcmpW q0 (100000000000000 : Int64)) < (0 : Int32)
                            · have pre42 : ∀ t, Steps p.tables e below (s₁.setTop (mkF m 31 #[.val (.long q0), .second, .val (.int (14 : Int32)), .val (.long (100000000000000 : Int64)), .second] [(.int (14 : Int32))])) t → Steps p.tables e below (s₁.setTop (entryFrame m #[(.long q0)] 5)) t := fun t k => by
                                refine pre40 t ?_
                                show Steps p.tables e below (s₁.setTop (mkF m 15 #[.val (.long q0), .second, .val (.int (14 : Int32)), .val (.long (100000000000000 : Int64)), .second] [(.int (lcmpW q0 (100000000000000 : Int64)))])) _
                                refine XS.ifYes X0.here hx rfl (pc0 := 15) (pc' := 30) rfl (hb hby d2_15) rfl ((if0 _ _).trans (tlt hc15_41).1) (by decide) (by decide) ?_
                                show Steps p.tables e below (s₁.setTop (mkF m 30 #[.val (.long q0), .second, .val (.int (14 : Int32)), .val (.long (100000000000000 : Int64)), .second] [])) _
                                refine XS.iloadN X0.here hx rfl (hb hby d2_30) rfl ?_
                                exact k
                              obtain ⟨fs, hrq, hrun, hended, hW, hsame⟩ := X0.leave (v := some (.int (14 : Int32))) (fun h => by rw [Bd.returns] at h; cases h)
                              refine ⟨_, _, pre42 _ ?_, hrun, hended, _, _, rfl, ?_, ⟨_, rfl⟩, hW, hsame.mono (by decide) (by decide)⟩
                              · show Steps p.tables e below (s₁.setTop (mkF m 31 #[.val (.long q0), .second, .val (.int (14 : Int32)), .val (.long (100000000000000 : Int64)), .second] [(.int (14 : Int32))])) _
                                exact retI X0 hx Bd.returns (hb hby d2_31) hrq
                              · show Q2 Z q0 h0 n0 _ s₁.heap _
                                rw [e0]
                                exact ⟨_, rfl, N0, rfl, (Or.inr (Or.inr (Or.inr (Or.inr (Or.inr (Or.inr (Or.inr (Or.inr (Or.inr (Or.inr (Or.inr (Or.inr (Or.inr (Or.inl ⟨rfl, (fun z => hc15_38 ((lw_lt _ _).mpr z)), ((lw_lt _ _).mp hc15_41)⟩))))))))))))))⟩
                            · have pre43 : ∀ t, Steps p.tables e below (s₁.setTop (mkF m 15 #[.val (.long q0), .second, .val (.int (15 : Int32)), .val (.long (1000000000000000 : Int64)), .second] [(.int (lcmpW q0 (1000000000000000 : Int64)))])) t → Steps p.tables e below (s₁.setTop (entryFrame m #[(.long q0)] 5)) t := fun t k => by
                                refine pre40 t ?_
                                show Steps p.tables e below (s₁.setTop (mkF m 15 #[.val (.long q0), .second, .val (.int (14 : Int32)), .val (.long (100000000000000 : Int64)), .second] [(.int (lcmpW q0 (100000000000000 : Int64)))])) _
                                refine XS.ifNo X0.here hx rfl (hb hby d2_15) rfl ((if0 _ _).trans (flt hc15_41).1) ?_
                                show Steps p.tables e below (s₁.setTop (mkF m 18 #[.val (.long q0), .second, .val (.int (14 : Int32)), .val (.long (100000000000000 : Int64)), .second] [])) _
                                refine XS.iinc X0.here hx rfl (hb hby d2_18) rfl (l' := #[.val (.long q0), .second, .val (.int (15 : Int32)), .val (.long (100000000000000 : Int64)), .second]) rfl ?_
                                show Steps p.tables e below (s₁.setTop (mkF m 21 #[.val (.long q0), .second, .val (.int (15 : Int32)), .val (.long (100000000000000 : Int64)), .second] [])) _
                                refine XS.lloadN X0.here hx rfl (hb hby d2_21) rfl ?_
                                show Steps p.tables e below (s₁.setTop (mkF m 22 #[.val (.long q0), .second, .val (.int (15 : Int32)), .val (.long (100000000000000 : Int64)), .second] [(.long (100000000000000 : Int64))])) _
                                refine X0.ldc2Long hx hown (mvT hZ (hw _ (List.mem_of_getElem? (i := 30) rfl))) (g := (mkF m 22 #[.val (.long q0), .second, .val (.int (15 : Int32)), .val (.long (100000000000000 : Int64)), .second] [(.long (100000000000000 : Int64))])) rfl (hb hby d2_22) _ ?_
                                show Steps p.tables e below (s₁.setTop (mkF m 25 #[.val (.long q0), .second, .val (.int (15 : Int32)), .val (.long (100000000000000 : Int64)), .second] [(.long (10 : Int64)), (.long (100000000000000 : Int64))])) _
                                refine XS.lmul X0.here hx rfl (hb hby d2_25) rfl ?_
                                show Steps p.tables e below (s₁.setTop (mkF m 26 #[.val (.long q0), .second, .val (.int (15 : Int32)), .val (.long (100000000000000 : Int64)), .second] [(.long (1000000000000000 : Int64))])) _
                                refine XS.lstoreN X0.here hx rfl (hb hby d2_26) rfl (l' := #[.val (.long q0), .second, .val (.int (15 : Int32)), .val (.long (1000000000000000 : Int64)), .second]) rfl ?_
                                show Steps p.tables e below (s₁.setTop (mkF m 27 #[.val (.long q0), .second, .val (.int (15 : Int32)), .val (.long (1000000000000000 : Int64)), .second] [])) _
                                refine XS.goto X0.here hx rfl (pc0 := 27) (pc' := 6) rfl (hb hby d2_27) (by decide) (by decide) ?_
                                show Steps p.tables e below (s₁.setTop (mkF m 6 #[.val (.long q0), .second, .val (.int (15 : Int32)), .val (.long (1000000000000000 : Int64)), .second] [])) _
                                refine XS.iloadN X0.here hx rfl (hb hby d2_6) rfl ?_
                                show Steps p.tables e below (s₁.setTop (mkF m 7 #[.val (.long q0), .second, .val (.int (15 : Int32)), .val (.long (1000000000000000 : Int64)), .second] [(.int (15 : Int32))])) _
                                refine XS.bipush X0.here hx rfl (hb hby d2_7) ?_
                                show Steps p.tables e below (s₁.setTop (mkF m 9 #[.val (.long q0), .second, .val (.int (15 : Int32)), .val (.long (1000000000000000 : Int64)), .second] [(.int (19 : Int32)), (.int (15 : Int32))])) _
                                refine XS.icmpNo X0.here hx rfl (hb hby d2_9) rfl (tlt (by decide : (15 : Int32) < (19 : Int32))).2.1 ?_
                                show Steps p.tables e below (s₁.setTop (mkF m 12 #[.val (.long q0), .second, .val (.int (15 : Int32)), .val (.long (1000000000000000 : Int64)), .second] [])) _
                                refine XS.lloadN X0.here hx rfl (hb hby d2_12) rfl ?_
                                show Steps p.tables e below (s₁.setTop (mkF m 13 #[.val (.long q0), .second, .val (.int (15 : Int32)), .val (.long (1000000000000000 : Int64)), .second] [(.long q0)])) _
                                refine XS.lloadN X0.here hx rfl (hb hby d2_13) rfl ?_
                                show Steps p.tables e below (s₁.setTop (mkF m 14 #[.val (.long q0), .second, .val (.int (15 : Int32)), .val (.long (1000000000000000 : Int64)), .second] [(.long (1000000000000000 : Int64)), (.long q0)])) _
                                refine XS.lcmp X0.here hx rfl (hb hby d2_14) rfl ?_
                                exact k
                              by_cases hc15_44 : (lcmpW q0 (1000000000000000 : Int64)) < (0 : Int32)
                              · have pre45 : ∀ t, Steps p.tables e below (s₁.setTop (mkF m 31 #[.val (.long q0), .second, .val (.int (15 : Int32)), .val (.long (1000000000000000 : Int64)), .second] [(.int (15 : Int32))])) t → Steps p.tables e below (s₁.setTop (entryFrame m #[(.long q0)] 5)) t := fun t k => by
                                  refine pre43 t ?_
                                  show Steps p.tables e below (s₁.setTop (mkF m 15 #[.val (.long q0), .second, .val (.int (15 : Int32)), .val (.long (1000000000000000 : Int64)), .second] [(.int (lcmpW q0 (1000000000000000 : Int64)))])) _
                                  refine XS.ifYes X0.here hx rfl (pc0 := 15) (pc' := 30) rfl (hb hby d2_15) rfl ((if0 _ _).trans (tlt hc15_44).1) (by decide) (by decide) ?_
                                  show Steps p.tables e below (s₁.setTop (mkF m 30 #[.val (.long q0), .second, .val (.int (15 : Int32)), .val (.long (1000000000000000 : Int64)), .second] [])) _
                                  refine XS.iloadN X0.here hx rfl (hb hby d2_30) rfl ?_
                                  exact k
                                obtain ⟨fs, hrq, hrun, hended, hW, hsame⟩ := X0.leave (v := some (.int (15 : Int32))) (fun h => by rw [Bd.returns] at h; cases h)
                                refine ⟨_, _, pre45 _ ?_, hrun, hended, _, _, rfl, ?_, ⟨_, rfl⟩, hW, hsame.mono (by decide) (by decide)⟩
                                · show Steps p.tables e below (s₁.setTop (mkF m 31 #[.val (.long q0), .second, .val (.int (15 : Int32)), .val (.long (1000000000000000 : Int64)), .second] [(.int (15 : Int32))])) _
                                  exact retI X0 hx Bd.returns (hb hby d2_31) hrq
                                · show Q2 Z q0 h0 n0 _ s₁.heap _
                                  rw [e0]
                                  exact ⟨_, rfl, N0, rfl, (Or.inr (Or.inr (Or.inr (Or.inr (Or.inr (Or.inr (Or.inr (Or.inr (Or.inr (Or.inr (Or.inr (Or.inr (Or.inr (Or.inr (Or.inl ⟨rfl, (fun z => hc15_41 ((lw_lt _ _).mpr z)), ((lw_lt _ _).mp hc15_44)⟩)))))))))))))))⟩
                              · have pre46 : ∀ t, Steps p.tables e below (s₁.setTop (mkF m 15 #[.val (.long q0), .second, .val (.int (16 : Int32)), .val (.long (10000000000000000 : Int64)), .second] [(.int (lcmpW q0 (10000000000000000 : Int64)))])) t → Steps p.tables e below (s₁.setTop (entryFrame m #[(.long q0)] 5)) t := fun t k => by
                                  refine pre43 t ?_
                                  show Steps p.tables e below (s₁.setTop (mkF m 15 #[.val (.long q0), .second, .val (.int (15 : Int32)), .val (.long (1000000000000000 : Int64)), .second] [(.int (lcmpW q0 (1000000000000000 : Int64)))])) _
                                  refine XS.ifNo X0.here hx rfl (hb hby d2_15) rfl ((if0 _ _).trans (flt hc15_44).1) ?_
                                  show Steps p.tables e below (s₁.setTop (mkF m 18 #[.val (.long q0), .second, .val (.int (15 : Int32)), .val (.long (1000000000000000 : Int64)), .second] [])) _
                                  refine XS.iinc X0.here hx rfl (hb hby d2_18) rfl (l' := #[.val (.long q0), .second, .val (.int (16 : Int32)), .val (.long (1000000000000000 : Int64)), .second]) rfl ?_
                                  show Steps p.tables e below (s₁.setTop (mkF m 21 #[.val (.long q0), .second, .val (.int (16 : Int32)), .val (.long (1000000000000000 : Int64)), .second] [])) _
                                  refine XS.lloadN X0.here hx rfl (hb hby d2_21) rfl ?_
                                  show Steps p.tables e below (s₁.setTop (mkF m 22 #[.val (.long q0), .second, .val (.int (16 : Int32)), .val (.long (1000000000000000 : Int64)), .second] [(.long (1000000000000000 : Int64))])) _
                                  refine X0.ldc2Long hx hown (mvT hZ (hw _ (List.mem_of_getElem? (i := 30) rfl))) (g := (mkF m 22 #[.val (.long q0), .second, .val (.int (16 : Int32)), .val (.long (1000000000000000 : Int64)), .second] [(.long (1000000000000000 : Int64))])) rfl (hb hby d2_22) _ ?_
                                  show Steps p.tables e below (s₁.setTop (mkF m 25 #[.val (.long q0), .second, .val (.int (16 : Int32)), .val (.long (1000000000000000 : Int64)), .second] [(.long (10 : Int64)), (.long (1000000000000000 : Int64))])) _
                                  refine XS.lmul X0.here hx rfl (hb hby d2_25) rfl ?_
                                  show Steps p.tables e below (s₁.setTop (mkF m 26 #[.val (.long q0), .second, .val (.int (16 : Int32)), .val (.long (1000000000000000 : Int64)), .second] [(.long (10000000000000000 : Int64))])) _
                                  refine XS.lstoreN X0.here hx rfl (hb hby d2_26) rfl (l' := #[.val (.long q0), .second, .val (.int (16 : Int32)), .val (.long (10000000000000000 : Int64)), .second]) rfl ?_
                                  show Steps p.tables e below (s₁.setTop (mkF m 27 #[.val (.long q0), .second, .val (.int (16 : Int32)), .val (.long (10000000000000000 : Int64)), .second] [])) _
                                  refine XS.goto X0.here hx rfl (pc0 := 27) (pc' := 6) rfl (hb hby d2_27) (by decide) (by decide) ?_
                                  show Steps p.tables e below (s₁.setTop (mkF m 6 #[.val (.long q0), .second, .val (.int (16 : Int32)), .val (.long (10000000000000000 : Int64)), .second] [])) _
                                  refine XS.iloadN X0.here hx rfl (hb hby d2_6) rfl ?_
                                  show Steps p.tables e below (s₁.setTop (mkF m 7 #[.val (.long q0), .second, .val (.int (16 : Int32)), .val (.long (10000000000000000 : Int64)), .second] [(.int (16 : Int32))])) _
                                  refine XS.bipush X0.here hx rfl (hb hby d2_7) ?_
                                  show Steps p.tables e below (s₁.setTop (mkF m 9 #[.val (.long q0), .second, .val (.int (16 : Int32)), .val (.long (10000000000000000 : Int64)), .second] [(.int (19 : Int32)), (.int (16 : Int32))])) _
                                  refine XS.icmpNo X0.here hx rfl (hb hby d2_9) rfl (tlt (by decide : (16 : Int32) < (19 : Int32))).2.1 ?_
                                  show Steps p.tables e below (s₁.setTop (mkF m 12 #[.val (.long q0), .second, .val (.int (16 : Int32)), .val (.long (10000000000000000 : Int64)), .second] [])) _
                                  refine XS.lloadN X0.here hx rfl (hb hby d2_12) rfl ?_
                                  show Steps p.tables e below (s₁.setTop (mkF m 13 #[.val (.long q0), .second, .val (.int (16 : Int32)), .val (.long (10000000000000000 : Int64)), .second] [(.long q0)])) _
                                  refine XS.lloadN X0.here hx rfl (hb hby d2_13) rfl ?_
                                  show Steps p.tables e below (s₁.setTop (mkF m 14 #[.val (.long q0), .second, .val (.int (16 : Int32)), .val (.long (10000000000000000 : Int64)), .second] [(.long (10000000000000000 : Int64)), (.long q0)])) _
                                  refine XS.lcmp X0.here hx rfl (hb hby d2_14) rfl ?_
                                  exact k
                                by_cases hc15_47 : (lcmpW q0 (10000000000000000 : Int64)) < (0 : Int32)
                                · have pre48 : ∀ t, Steps p.tables e below (s₁.setTop (mkF m 31 #[.val (.long q0), .second, .val (.int (16 : Int32)), .val (.long (10000000000000000 : Int64)), .second] [(.int (16 : Int32))])) t → Steps p.tables e below (s₁.setTop (entryFrame m #[(.long q0)] 5)) t := fun t k => by
                                    refine pre46 t ?_
                                    show Steps p.tables e below (s₁.setTop (mkF m 15 #[.val (.long q0), .second, .val (.int (16 : Int32)), .val (.long (10000000000000000 : Int64)), .second] [(.int (lcmpW q0 (10000000000000000 : Int64)))])) _
                                    refine XS.ifYes X0.here hx rfl (pc0 := 15) (pc' := 30) rfl (hb hby d2_15) rfl ((if0 _ _).trans (tlt hc15_47).1) (by decide) (by decide) ?_
                                    show Steps p.tables e below (s₁.setTop (mkF m 30 #[.val (.long q0), .second, .val (.int (16 : Int32)), .val (.long (10000000000000000 : Int64)), .second] [])) _
                                    refine XS.iloadN X0.here hx rfl (hb hby d2_30) rfl ?_
                                    exact k
                                  obtain ⟨fs, hrq, hrun, hended, hW, hsame⟩ := X0.leave (v := some (.int (16 : Int32))) (fun h => by rw [Bd.returns] at h; cases h)
                                  refine ⟨_, _, pre48 _ ?_, hrun, hended, _, _, rfl, ?_, ⟨_, rfl⟩, hW, hsame.mono (by decide) (by decide)⟩
                                  · show Steps p.tables e below (s₁.setTop (mkF m 31 #[.val (.long q0), .second, .val (.int (16 : Int32)), .val (.long (10000000000000000 : Int64)), .second] [(.int (16 : Int32))])) _
                                    exact retI X0 hx Bd.returns (hb hby d2_31) hrq
                                  · show Q2 Z q0 h0 n0 _ s₁.heap _
                                    rw [e0]
                                    exact ⟨_, rfl, N0, rfl, (Or.inr (Or.inr (Or.inr (Or.inr (Or.inr (Or.inr (Or.inr (Or.inr (Or.inr (Or.inr (Or.inr (Or.inr (Or.inr (Or.inr (Or.inr (Or.inl ⟨rfl, (fun z => hc15_44 ((lw_lt _ _).mpr z)), ((lw_lt _ _).mp hc15_47)⟩))))))))))))))))⟩
                                · have pre49 : ∀ t, Steps p.tables e below (s₁.setTop (mkF m 15 #[.val (.long q0), .second, .val (.int (17 : Int32)), .val (.long (100000000000000000 : Int64)), .second] [(.int (lcmpW q0 (100000000000000000 : Int64)))])) t → Steps p.tables e below (s₁.setTop (entryFrame m #[(.long q0)] 5)) t := fun t k => by
                                    refine pre46 t ?_
                                    show Steps p.tables e below (s₁.setTop (mkF m 15 #[.val (.long q0), .second, .val (.int (16 : Int32)), .val (.long (10000000000000000 : Int64)), .second] [(.int (lcmpW q0 (10000000000000000 : Int64)))])) _
                                    refine XS.ifNo X0.here hx rfl (hb hby d2_15) rfl ((if0 _ _).trans (flt hc15_47).1) ?_
                                    show Steps p.tables e below (s₁.setTop (mkF m 18 #[.val (.long q0), .second, .val (.int (16 : Int32)), .val (.long (10000000000000000 : Int64)), .second] [])) _
                                    refine XS.iinc X0.here hx rfl (hb hby d2_18) rfl (l' := #[.val (.long q0), .second, .val (.int (17 : Int32)), .val (.long (10000000000000000 : Int64)), .second]) rfl ?_
                                    show Steps p.tables e below (s₁.setTop (mkF m 21 #[.val (.long q0), .second, .val (.int (17 : Int32)), .val (.long (10000000000000000 : Int64)), .second] [])) _
                                    refine XS.lloadN X0.here hx rfl (hb hby d2_21) rfl ?_
                                    show Steps p.tables e below (s₁.setTop (mkF m 22 #[.val (.long q0), .second, .val (.int (17 : Int32)), .val (.long (10000000000000000 : Int64)), .second] [(.long (10000000000000000 : Int64))])) _
                                    refine X0.ldc2Long hx hown (mvT hZ (hw _ (List.mem_of_getElem? (i := 30) rfl))) (g := (mkF m 22 #[.val (.long q0), .second, .val (.int (17 : Int32)), .val (.long (10000000000000000 : Int64)), .second] [(.long (10000000000000000 : Int64))])) rfl (hb hby d2_22) _ ?_
                                    show Steps p.tables e below (s₁.setTop (mkF m 25 #[.val (.long q0), .second, .val (.int (17 : Int32)), .val (.long (10000000000000000 : Int64)), .second] [(.long (10 : Int64)), (.long (10000000000000000 : Int64))])) _
                                    refine XS.lmul X0.here hx rfl (hb hby d2_25) rfl ?_
                                    show Steps p.tables e below (s₁.setTop (mkF m 26 #[.val (.long q0), .second, .val (.int (17 : Int32)), .val (.long (10000000000000000 : Int64)), .second] [(.long (100000000000000000 : Int64))])) _
                                    refine XS.lstoreN X0.here hx rfl (hb hby d2_26) rfl (l' := #[.val (.long q0), .second, .val (.int (17 : Int32)), .val (.long (100000000000000000 : Int64)), .second]) rfl ?_
                                    show Steps p.tables e below (s₁.setTop (mkF m 27 #[.val (.long q0), .second, .val (.int (17 : Int32)), .val (.long (100000000000000000 : Int64)), .second] [])) _
                                    refine XS.goto X0.here hx rfl (pc0 := 27) (pc' := 6) rfl (hb hby d2_27) (by decide) (by decide) ?_
                                    show Steps p.tables e below (s₁.setTop (mkF m 6 #[.val (.long q0), .second, .val (.int (17 : Int32)), .val (.long (100000000000000000 : Int64)), .second] [])) _
                                    refine XS.iloadN X0.here hx rfl (hb hby d2_6) rfl ?_
                                    show Steps p.tables e below (s₁.setTop (mkF m 7 #[.val (.long q0), .second, .val (.int (17 : Int32)), .val (.long (100000000000000000 : Int64)), .second] [(.int (17 : Int32))])) _
                                    refine XS.bipush X0.here hx rfl (hb hby d2_7) ?_
                                    show Steps p.tables e below (s₁.setTop (mkF m 9 #[.val (.long q0), .second, .val (.int (17 : Int32)), .val (.long (100000000000000000 : Int64)), .second] [(.int (19 : Int32)), (.int (17 : Int32))])) _
                                    refine XS.icmpNo X0.here hx rfl (hb hby d2_9) rfl (tlt (by decide : (17 : Int32) < (19 : Int32))).2.1 ?_
                                    show Steps p.tables e below (s₁.setTop (mkF m 12 #[.val (.long q0), .second, .val (.int (17 : Int32)), .val (.long (100000000000000000 : Int64)), .second] [])) _
                                    refine XS.lloadN X0.here hx rfl (hb hby d2_12) rfl ?_
                                    show Steps p.tables e below (s₁.setTop (mkF m 13 #[.val (.long q0), .second, .val (.int (17 : Int32)), .val (.long (100000000000000000 : Int64)), .second] [(.long q0)])) _
                                    refine XS.lloadN X0.here hx rfl (hb hby d2_13) rfl ?_
                                    show Steps p.tables e below (s₁.setTop (mkF m 14 #[.val (.long q0), .second, .val (.int (17 : Int32)), .val (.long (100000000000000000 : Int64)), .second] [(.long (100000000000000000 : Int64)), (.long q0)])) _
                                    refine XS.lcmp X0.here hx rfl (hb hby d2_14) rfl ?_
                                    exact k
                                  by_cases hc15_50 : (lcmpW q0 (100000000000000000 : Int64)) < (0 : Int32)
                                  · have pre51 : ∀ t, Steps p.tables e below (s₁.setTop (mkF m 31 #[.val (.long q0), .second, .val (.int (17 : Int32)), .val (.long (100000000000000000 : Int64)), .second] [(.int (17 : Int32))])) t → Steps p.tables e below (s₁.setTop (entryFrame m #[(.long q0)] 5)) t := fun t k => by
                                      refine pre49 t ?_
                                      show Steps p.tables e below (s₁.setTop (mkF m 15 #[.val (.long q0), .second, .val (.int (17 : Int32)), .val (.long (100000000000000000 : Int64)), .second] [(.int (lcmpW q0 (100000000000000000 : Int64)))])) _
                                      refine XS.ifYes X0.here hx rfl (pc0 := 15) (pc' := 30) rfl (hb hby d2_15) rfl ((if0 _ _).trans (tlt hc15_50).1) (by decide) (by decide) ?_
                                      show Steps p.tables e below (s₁.setTop (mkF m 30 #[.val (.long q0), .second, .val (.int (17 : Int32)), .val (.long (100000000000000000 : Int64)), .second] [])) _
                                      refine XS.iloadN X0.here hx rfl (hb hby d2_30) rfl ?_
                                      exact k
                                    obtain ⟨fs, hrq, hrun, hended, hW, hsame⟩ := X0.leave (v := some (.int (17 : Int32))) (fun h => by rw [Bd.returns] at h; cases h)
                                    refine ⟨_, _, pre51 _ ?_, hrun, hended, _, _, rfl, ?_, ⟨_, rfl⟩, hW, hsame.mono (by decide) (by decide)⟩
                                    · show Steps p.tables e below (s₁.setTop (mkF m 31 #[.val (.long q0), .second, .val (.int (17 : Int32)), .val (.long (100000000000000000 : Int64)), .second] [(.int (17 : Int32))])) _
                                      exact retI X0 hx Bd.returns (hb hby d2_31) hrq
                                    · show Q2 Z q0 h0 n0 _ s₁.heap _
                                      rw [e0]
                                      exact ⟨_, rfl, N0, rfl, (Or.inr (Or.inr (Or.inr (Or.inr (Or.inr (Or.inr (Or.inr (Or.inr (Or.inr (Or.inr (Or.inr (Or.inr (Or.inr (Or.inr (Or.inr (Or.inr (Or.inl ⟨rfl, (fun z => hc15_47 ((lw_lt _ _).mpr z)), ((lw_lt _ _).mp hc15_50)⟩)))))))))))))))))⟩
                                  · have pre52 : ∀ t, Steps p.tables e below (s₁.setTop (mkF m 15 #[.val (.long q0), .second, .val (.int (18 : Int32)), .val (.long (1000000000000000000 : Int64)), .second] [(.int (lcmpW q0 (1000000000000000000 : Int64)))])) t → Steps p.tables e below (s₁.setTop (entryFrame m #[(.long q0)] 5)) t := fun t k => by
                                      refine pre49 t ?_
                                      show Steps p.tables e below (s₁.setTop (mkF m 15 #[.val (.long q0), .second, .val (.int (17 : Int32)), .val (.long (100000000000000000 : Int64)), .second] [(.int (lcmpW q0 (100000000000000000 : Int64)))])) _
                                      refine XS.ifNo X0.here hx rfl (hb hby d2_15) rfl ((if0 _ _).trans (flt hc15_50).1) ?_
                                      show Steps p.tables e below (s₁.setTop (mkF m 18 #[.val (.long q0), .second, .val (.int (17 : Int32)), .val (.long (100000000000000000 : Int64)), .second] [])) _
                                      refine XS.iinc X0.here hx rfl (hb hby d2_18) rfl (l' := #[.val (.long q0), .second, .val (.int (18 : Int32)), .val (.long (100000000000000000 : Int64)), .second]) rfl ?_
                                      show Steps p.tables e below (s₁.setTop (mkF m 21 #[.val (.long q0), .second, .val (.int (18 : Int32)), .val (.long (100000000000000000 : Int64)), .second] [])) _
                                      refine XS.lloadN X0.here hx rfl (hb hby d2_21) rfl ?_
                                      show Steps p.tables e below (s₁.setTop (mkF m 22 #[.val (.long q0), .second, .val (.int (18 : Int32)), .val (.long (100000000000000000 : Int64)), .second] [(.long (100000000000000000 : Int64))])) _
                                      refine X0.ldc2Long hx hown (mvT hZ (hw _ (List.mem_of_getElem? (i := 30) rfl))) (g := (mkF m 22 #[.val (.long q0), .second, .val (.int (18 : Int32)), .val (.long (100000000000000000 : Int64)), .second] [(.long (100000000000000000 : Int64))])) rfl (hb hby d2_22) _ ?_
                                      show Steps p.tables e below (s₁.setTop (mkF m 25 #[.val (.long q0), .second, .val (.int (18 : Int32)), .val (.long (100000000000000000 : Int64)), .second] [(.long (10 : Int64)), (.long (100000000000000000 : Int64))])) _
                                      refine XS.lmul X0.here hx rfl (hb hby d2_25) rfl ?_
                                      show Steps p.tables e below (s₁.setTop (mkF m 26 #[.val (.long q0), .second, .val (.int (18 : Int32)), .val (.long (100000000000000000 : Int64)), .second] [(.long (1000000000000000000 : Int64))])) _
                                      refine XS.lstoreN X0.here hx rfl (hb hby d2_26) rfl (l' := #[.val (.long q0), .second, .val (.int (18 : Int32)), .val (.long (1000000000000000000 : Int64)), .second]) rfl ?_
                                      show Steps p.tables e below (s₁.setTop (mkF m 27 #[.val (.long q0), .second, .val (.int (18 : Int32)), .val (.long (1000000000000000000 : Int64)), .second] [])) _
                                      refine XS.goto X0.here hx rfl (pc0 := 27) (pc' := 6) rfl (hb hby d2_27) (by decide) (by decide) ?_
                                      show Steps p.tables e below (s₁.setTop (mkF m 6 #[.val (.long q0), .second, .val (.int (18 : Int32)), .val (.long (1000000000000000000 : Int64)), .second] [])) _
                                      refine XS.iloadN X0.here hx rfl (hb hby d2_6) rfl ?_
                                      show Steps p.tables e below (s₁.setTop (mkF m 7 #[.val (.long q0), .second, .val (.int (18 : Int32)), .val (.long (1000000000000000000 : Int64)), .second] [(.int (18 : Int32))])) _
                                      refine XS.bipush X0.here hx rfl (hb hby d2_7) ?_
                                      show Steps p.tables e below (s₁.setTop (mkF m 9 #[.val (.long q0), .second, .val (.int (18 : Int32)), .val (.long (1000000000000000000 : Int64)), .second] [(.int (19 : Int32)), (.int (18 : Int32))])) _
                                      refine XS.icmpNo X0.here hx rfl (hb hby d2_9) rfl (tlt (by decide : (18 : Int32) < (19 : Int32))).2.1 ?_
                                      show Steps p.tables e below (s₁.setTop (mkF m 12 #[.val (.long q0), .second, .val (.int (18 : Int32)), .val (.long (1000000000000000000 : Int64)), .second] [])) _
                                      refine XS.lloadN X0.here hx rfl (hb hby d2_12) rfl ?_
                                      show Steps p.tables e below (s₁.setTop (mkF m 13 #[.val (.long q0), .second, .val (.int (18 : Int32)), .val (.long (1000000000000000000 : Int64)), .second] [(.long q0)])) _
                                      refine XS.lloadN X0.here hx rfl (hb hby d2_13) rfl ?_
                                      show Steps p.tables e below (s₁.setTop (mkF m 14 #[.val (.long q0), .second, .val (.int (18 : Int32)), .val (.long (1000000000000000000 : Int64)), .second] [(.long (1000000000000000000 : Int64)), (.long q0)])) _
                                      refine XS.lcmp X0.here hx rfl (hb hby d2_14) rfl ?_
                                      exact k
                                    by_cases hc15_53 : (lcmpW q0 (1000000000000000000 : Int64)) < (0 : Int32)
                                    · have pre54 : ∀ t, Steps p.tables e below (s₁.setTop (mkF m 31 #[.val (.long q0), .second, .val (.int (18 : Int32)), .val (.long (1000000000000000000 : Int64)), .second] [(.int (18 : Int32))])) t → Steps p.tables e below (s₁.setTop (entryFrame m #[(.long q0)] 5)) t := fun t k => by
                                        refine pre52 t ?_
                                        show Steps p.tables e below (s₁.setTop (mkF m 15 #[.val (.long q0), .second, .val (.int (18 : Int32)), .val (.long (1000000000000000000 : Int64)), .second] [(.int (lcmpW q0 (1000000000000000000 : Int64)))])) _
                                        refine XS.ifYes X0.here hx rfl (pc0 := 15) (pc' := 30) rfl (hb hby d2_15) rfl ((if0 _ _).trans (tlt hc15_53).1) (by decide) (by decide) ?_
                                        show Steps p.tables e below (s₁.setTop (mkF m 30 #[.val (.long q0), .second, .val (.int (18 : Int32)), .val (.long (1000000000000000000 : Int64)), .second] [])) _
                                        refine XS.iloadN X0.here hx rfl (hb hby d2_30) rfl ?_
                                        exact k
                                      obtain ⟨fs, hrq, hrun, hended, hW, hsame⟩ := X0.leave (v := some (.int (18 : Int32))) (fun h => by rw [Bd.returns] at h; cases h)
                                      refine ⟨_, _, pre54 _ ?_, hrun, hended, _, _, rfl, ?_, ⟨_, rfl⟩, hW, hsame.mono (by decide) (by decide)⟩
                                      · show Steps p.tables e below (s₁.setTop (mkF m 31 #[.val (.long q0), .second, .val (.int (18 : Int32)), .val (.long (1000000000000000000 : Int64)), .second] [(.int (18 : Int32))])) _
                                        exact retI X0 hx Bd.returns (hb hby d2_31) hrq
                                      · show Q2 Z q0 h0 n0 _ s₁.heap _
                                        rw [e0]
                                        exact ⟨_, rfl, N0, rfl, (Or.inr (Or.inr (Or.inr (Or.inr (Or.inr (Or.inr (Or.inr (Or.inr (Or.inr (Or.inr (Or.inr (Or.inr (Or.inr (Or.inr (Or.inr (Or.inr (Or.inr (Or.inl ⟨rfl, (fun z => hc15_50 ((lw_lt _ _).mpr z)), ((lw_lt _ _).mp hc15_53)⟩))))))))))))))))))⟩
                                    · have pre55 : ∀ t, Steps p.tables e below (s₁.setTop (mkF m 31 #[.val (.long q0), .second, .val (.int (19 : Int32)), .val (.long (-8446744073709551616 : Int64)), .second] [(.int (19 : Int32))])) t → Steps p.tables e below (s₁.setTop (entryFrame m #[(.long q0)] 5)) t := fun t k => by
                                        refine pre52 t ?_
                                        show Steps p.tables e below (s₁.setTop (mkF m 15 #[.val (.long q0), .second, .val (.int (18 : Int32)), .val (.long (1000000000000000000 : Int64)), .second] [(.int (lcmpW q0 (1000000000000000000 : Int64)))])) _
                                        refine XS.ifNo X0.here hx rfl (hb hby d2_15) rfl ((if0 _ _).trans (flt hc15_53).1) ?_
                                        show Steps p.tables e below (s₁.setTop (mkF m 18 #[.val (.long q0), .second, .val (.int (18 : Int32)), .val (.long (1000000000000000000 : Int64)), .second] [])) _
                                        refine XS.iinc X0.here hx rfl (hb hby d2_18) rfl (l' := #[.val (.long q0), .second, .val (.int (19 : Int32)), .val (.long (1000000000000000000 : Int64)), .second]) rfl ?_
                                        show Steps p.tables e below (s₁.setTop (mkF m 21 #[.val (.long q0), .second, .val (.int (19 : Int32)), .val (.long (1000000000000000000 : Int64)), .second] [])) _
                                        refine XS.lloadN X0.here hx rfl (hb hby d2_21) rfl ?_
                                        show Steps p.tables e below (s₁.setTop (mkF m 22 #[.val (.long q0), .second, .val (.int (19 : Int32)), .val (.long (1000000000000000000 : Int64)), .second] [(.long (1000000000000000000 : Int64))])) _
                                        refine X0.ldc2Long hx hown (mvT hZ (hw _ (List.mem_of_getElem? (i := 30) rfl))) (g := (mkF m 22 #[.val (.long q0), .second, .val (.int (19 : Int32)), .val (.long (1000000000000000000 : Int64)), .second] [(.long (1000000000000000000 : Int64))])) rfl (hb hby d2_22) _ ?_
                                        show Steps p.tables e below (s₁.setTop (mkF m 25 #[.val (.long q0), .second, .val (.int (19 : Int32)), .val (.long (1000000000000000000 : Int64)), .second] [(.long (10 : Int64)), (.long (1000000000000000000 : Int64))])) _
                                        refine XS.lmul X0.here hx rfl (hb hby d2_25) rfl ?_
                                        show Steps p.tables e below (s₁.setTop (mkF m 26 #[.val (.long q0), .second, .val (.int (19 : Int32)), .val (.long (1000000000000000000 : Int64)), .second] [(.long (-8446744073709551616 : Int64))])) _
                                        refine XS.lstoreN X0.here hx rfl (hb hby d2_26) rfl (l' := #[.val (.long q0), .second, .val (.int (19 : Int32)), .val (.long (-8446744073709551616 : Int64)), .second]) rfl ?_
                                        show Steps p.tables e below (s₁.setTop (mkF m 27 #[.val (.long q0), .second, .val (.int (19 : Int32)), .val (.long (-8446744073709551616 : Int64)), .second] [])) _
                                        refine XS.goto X0.here hx rfl (pc0 := 27) (pc' := 6) rfl (hb hby d2_27) (by decide) (by decide) ?_
                                        show Steps p.tables e below (s₁.setTop (mkF m 6 #[.val (.long q0), .second, .val (.int (19 : Int32)), .val (.long (-8446744073709551616 : Int64)), .second] [])) _
                                        refine XS.iloadN X0.here hx rfl (hb hby d2_6) rfl ?_
                                        show Steps p.tables e below (s₁.setTop (mkF m 7 #[.val (.long q0), .second, .val (.int (19 : Int32)), .val (.long (-8446744073709551616 : Int64)), .second] [(.int (19 : Int32))])) _
                                        refine XS.bipush X0.here hx rfl (hb hby d2_7) ?_
                                        show Steps p.tables e below (s₁.setTop (mkF m 9 #[.val (.long q0), .second, .val (.int (19 : Int32)), .val (.long (-8446744073709551616 : Int64)), .second] [(.int (19 : Int32)), (.int (19 : Int32))])) _
                                        refine XS.icmpYes X0.here hx rfl (pc0 := 9) (pc' := 30) rfl (hb hby d2_9) rfl (flt (by decide : ¬ ((19 : Int32) < (19 : Int32)))).2.1 (by decide) (by decide) ?_
                                        show Steps p.tables e below (s₁.setTop (mkF m 30 #[.val (.long q0), .second, .val (.int (19 : Int32)), .val (.long (-8446744073709551616 : Int64)), .second] [])) _
                                        refine XS.iloadN X0.here hx rfl (hb hby d2_30) rfl ?_
                                        exact k
                                      obtain ⟨fs, hrq, hrun, hended, hW, hsame⟩ := X0.leave (v := some (.int (19 : Int32))) (fun h => by rw [Bd.returns] at h; cases h)
                                      refine ⟨_, _, pre55 _ ?_, hrun, hended, _, _, rfl, ?_, ⟨_, rfl⟩, hW, hsame.mono (by decide) (by decide)⟩
                                      · show Steps p.tables e below (s₁.setTop (mkF m 31 #[.val (.long q0), .second, .val (.int (19 : Int32)), .val (.long (-8446744073709551616 : Int64)), .second] [(.int (19 : Int32))])) _
                                        exact retI X0 hx Bd.returns (hb hby d2_31) hrq
                                      · show Q2 Z q0 h0 n0 _ s₁.heap _
                                        rw [e0]
                                        exact ⟨_, rfl, N0, rfl, (Or.inr (Or.inr (Or.inr (Or.inr (Or.inr (Or.inr (Or.inr (Or.inr (Or.inr (Or.inr (Or.inr (Or.inr (Or.inr (Or.inr (Or.inr (Or.inr (Or.inr (Or.inr (⟨rfl, (fun z => hc15_53 ((lw_lt _ _).mpr z))⟩)))))))))))))))))))⟩
theorem pd_0 : parseMethodDescriptor "(J)I" = some ⟨[.long], some .int⟩ := by decide +kernel
theorem pd_1 : parseMethodDescriptor "(JJ)J" = some ⟨[.long, .long], some .long⟩ := by decide +kernel
theorem ef_rm0 (m : MethodId) (x0 : Int64) (x1 : Int32) (x2 : Int32) : entryFrame m #[(.long x0), (.int x1), (.int x2)] maxLocals = mkF m 0 #[.val (.long x0), .second, .val (.int x1), .val (.int x2), .unset, .unset, .unset, .unset, .unset, .unset] [] := by first | (simp [entryFrame, mkF, argsToLocals, Value.category, maxLocals]; done) | rfl
theorem pn_1 : plainName "quorumkeep/base/AsciiDigitsPinLaw" = true := by first | (simp [plainName, overriddenIn]; done) | decide +kernel
def Q0 (Z : State) (q0 : Int64) (p2 : Int32) (p3 : Int32) (h0 : Heap) (n0 : Nat) (v : Option Value) (h : Heap) (L : List Loc) : Prop := v = some (.int 1) ∧ Fr n0 L
set_option maxRecDepth 65536 in
set_option maxHeartbeats 40000000 in
theorem rm0 (l : Launch) (Z : State) (a0 : Array Value) (hw : ∀ d ∈ tables_1, d.before a0 Z = true) (ws : List Jvm.Cond) (q0 : Int64) (p2 : Int32) (p3 : Int32) (h0 : Heap) (n0 : Nat) (Z0 : n0 ≤ h0.size)  :
    MetFree l x (head1 (Jvm.Cond.code x code maxLocals ret :: ws) room_1) (fun a U => a = #[(.long q0), (.int p2), (.int p3)] ∧ Z.Warmed39 U.vm ∧ U.heap = h0) (fun _ _ _ _ _ => True) (fun _ U o U' => ∃ v L, o = .returned v ∧ Q0 Z q0 p2 p3 h0 n0 v U'.heap L ∧ FrameEnd U o U' L room_1.cells room_1.slots) := by
  refine MetFree.of_bodySF (plainFor_of_name pn_1) hisR ?_
  intro p e s0 m args below meth c s₁ Bd hml0 hP hK
  obtain ⟨rfl, hZ, hh⟩ := hP
  have hx := Bd.exec
  have hby := Bd.bytes
  have hml : c.maxLocals = 10 := hml0
  have hown : s0.vm.findClass "quorumkeep/base/AsciiDigitsPinLaw" = some m.cls := findClass_of_methodNamed Bd.named
  have hnm := (name_of_methodNamed Bd.named Bd.method).1
  have X0 : Stand p l e room_1 s0 m #[(.long q0), (.int p2), (.int p3)] below meth c s₁ [] 0 0 := Stand.of_body Bd
  have e0 : s₁.heap = h0 := by rw [← hh, Bd.state]; rfl
  have N0 := Fr.nil n0
  have pre0 : ∀ t, Steps p.tables e below (s₁.setTop (mkF m 0 #[.val (.long q0), .second, .val (.int p2), .val (.int p3), .unset, .unset, .unset, .unset, .unset, .unset] [])) t → Steps p.tables e below (s₁.setTop (entryFrame m #[(.long q0), (.int p2), (.int p3)] maxLocals)) t := fun t k => castTop (ef_rm0 m q0 p2 p3) k
  obtain ⟨T1, h1, k1, X1, e1, E1, A1, st1⟩ := newP X0 hx hZ (hw _ (List.mem_of_getElem? (i := 0) rfl)) e0 (g := (mkF m 2 #[.val (.long q0), .second, .val (.int p2), .val (.int p3), .unset, .unset, .unset, .unset, .unset, .unset] [(.int (19 : Int32))])) rfl (hb hby at_2) rfl (by decide) (cap := 19) (by decide) (by decide) (by decide) (by decide)
  obtain ⟨b1, g1⟩ : ∃ z, z = h0.size := ⟨_, rfl⟩
  rw [← g1] at A1 st1
  have g_b1 : n0 ≤ b1 := Nat.le_trans Z0 (Nat.le_of_eq g1.symm)
  have Z2 : n0 ≤ h1.size := Nat.le_trans Z0 E1.1
  have V1 : Arv Z h1 b1 k1 .long (19 : Int32) [(.long (0 : Int64)), (.long (0 : Int64)), (.long (0 : Int64)), (.long (0 : Int64)), (.long (0 : Int64)), (.long (0 : Int64)), (.long (0 : Int64)), (.long (0 : Int64)), (.long (0 : Int64)), (.long (0 : Int64)), (.long (0 : Int64)), (.long (0 : Int64)), (.long (0 : Int64)), (.long (0 : Int64)), (.long (0 : Int64)), (.long (0 : Int64)), (.long (0 : Int64)), (.long (0 : Int64)), (.long (0 : Int64))] (.long (0 : Int64)) := (Arv.new A1 (by decide)).pad (pad_rep [] (.long (0 : Int64)) 19)
  obtain ⟨cl3, Ar3, q3, Sz3, Nz3, Hs3, Gs3⟩ := id V1
  have hin3 : ¬ ((0 : Int32) < 0 ∨ cl3.slots.size ≤ ((0 : Int32)).toNatClampNeg) := inb_of Sz3 ⟨by decide, by decide⟩
  obtain ⟨T4, h4, X4, e4, W4, st4⟩ := stJ X1 hx hZ e1 Ar3 (j := (0 : Int32)) hin3 (g := (mkF m 7 #[.val (.long q0), .second, .val (.int p2), .val (.int p3), .unset, .unset, .unset, .unset, .unset, .unset] [(.long (1 : Int64)), (.int (0 : Int32)), (.ref b1), (.ref b1)])) rfl rfl (hb hby at_7)
  have V4 : Arv Z h4 b1 k1 .long (19 : Int32) [(.long (1 : Int64)), (.long (0 : Int64)), (.long (0 : Int64)), (.long (0 : Int64)), (.long (0 : Int64)), (.long (0 : Int64)), (.long (0 : Int64)), (.long (0 : Int64)), (.long (0 : Int64)), (.long (0 : Int64)), (.long (0 : Int64)), (.long (0 : Int64)), (.long (0 : Int64)), (.long (0 : Int64)), (.long (0 : Int64)), (.long (0 : Int64)), (.long (0 : Int64)), (.long (0 : Int64)), (.long (0 : Int64))] (.long (0 : Int64)) := Arv.set Ar3 q3 Sz3 Nz3 Hs3 Gs3 rfl W4 0 rfl (Nat.le_of_ble_eq_true rfl)
  have Z5 : n0 ≤ h4.size := Nat.le_trans Z2 (Keep.of_wr W4).1
  have N4 := Fr.snoc X4 N0 g_b1
  obtain ⟨cl6, Ar6, q6, Sz6, Nz6, Hs6, Gs6⟩ := id V4
  have hin6 : ¬ ((1 : Int32) < 0 ∨ cl6.slots.size ≤ ((1 : Int32)).toNatClampNeg) := inb_of Sz6 ⟨by decide, by decide⟩
  obtain ⟨T7, h7, X7, e7, W7, st7⟩ := stJ X4 hx hZ e4 Ar6 (j := (1 : Int32)) hin6 (g := (mkF m 13 #[.val (.long q0), .second, .val (.int p2), .val (.int p3), .unset, .unset, .unset, .unset, .unset, .unset] [(.long (10 : Int64)), (.int (1 : Int32)), (.ref b1), (.ref b1)])) rfl rfl (hb hby at_13)
  have V7 : Arv Z h7 b1 k1 .long (19 : Int32) [(.long (1 : Int64)), (.long (10 : Int64)), (.long (0 : Int64)), (.long (0 : Int64)), (.long (0 : Int64)), (.long (0 : Int64)), (.long (0 : Int64)), (.long (0 : Int64)), (.long (0 : Int64)), (.long (0 : Int64)), (.long (0 : Int64)), (.long (0 : Int64)), (.long (0 : Int64)), (.long (0 : Int64)), (.long (0 : Int64)), (.long (0 : Int64)), (.long (0 : Int64)), (.long (0 : Int64)), (.long (0 : Int64))] (.long (0 : Int64)) := Arv.set Ar6 q6 Sz6 Nz6 Hs6 Gs6 rfl W7 1 rfl (Nat.le_of_ble_eq_true rfl)
  have Z8 : n0 ≤ h7.size := Nat.le_trans Z5 (Keep.of_wr W7).1
  have N7 := Fr.snoc X7 N4 g_b1
  obtain ⟨cl9, Ar9, q9, Sz9, Nz9, Hs9, Gs9⟩ := id V7
  have hin9 : ¬ ((2 : Int32) < 0 ∨ cl9.slots.size ≤ ((2 : Int32)).toNatClampNeg) := inb_of Sz9 ⟨by decide, by decide⟩
  obtain ⟨T10, h10, X10, e10, W10, st10⟩ := stJ X7 hx hZ e7 Ar9 (j := (2 : Int32)) hin9 (g := (mkF m 19 #[.val (.long q0), .second, .val (.int p2), .val (.int p3), .unset, .unset, .unset, .unset, .unset, .unset] [(.long (100 : Int64)), (.int (2 : Int32)), (.ref b1), (.ref b1)])) rfl rfl (hb hby at_19)
  have V10 : Arv Z h10 b1 k1 .long (19 : Int32) [(.long (1 : Int64)), (.long (10 : Int64)), (.long (100 : Int64)), (.long (0 : Int64)), (.long (0 : Int64)), (.long (0 : Int64)), (.long (0 : Int64)), (.long (0 : Int64)), (.long (0 : Int64)), (.long (0 : Int64)), (.long (0 : Int64)), (.long (0 : Int64)), (.long (0 : Int64)), (.long (0 : Int64)), (.long (0 : Int64)), (.long (0 : Int64)), (.long (0 : Int64)), (.long (0 : Int64)), (.long (0 : Int64))] (.long (0 : Int64)) := Arv.set Ar9 q9 Sz9 Nz9 Hs9 Gs9 rfl W10 2 rfl (Nat.le_of_ble_eq_true rfl)
  have Z11 : n0 ≤ h10.size := Nat.le_trans Z8 (Keep.of_wr W10).1
  have N10 := Fr.snoc X10 N7 g_b1
  obtain ⟨cl12, Ar12, q12, Sz12, Nz12, Hs12, Gs12⟩ := id V10
  have hin12 : ¬ ((3 : Int32) < 0 ∨ cl12.slots.size ≤ ((3 : Int32)).toNatClampNeg) := inb_of Sz12 ⟨by decide, by decide⟩
  obtain ⟨T13, h13, X13, e13, W13, st13⟩ := stJ X10 hx hZ e10 Ar12 (j := (3 : Int32)) hin12 (g := (mkF m 25 #[.val (.long q0), .second, .val (.int p2), .val (.int p3), .unset, .unset, .unset, .unset, .unset, .unset] [(.long (1000 : Int64)), (.int (3 : Int32)), (.ref b1), (.ref b1)])) rfl rfl (hb hby at_25)
  have V13 : Arv Z h13 b1 k1 .long (19 : Int32) [(.long (1 : Int64)), (.long (10 : Int64)), (.long (100 : Int64)), (.long (1000 : Int64)), (.long (0 : Int64)), (.long (0 : Int64)), (.long (0 : Int64)), (.long (0 : Int64)), (.long (0 : Int64)), (.long (0 : Int64)), (.long (0 : Int64)), (.long (0 : Int64)), (.long (0 : Int64)), (.long (0 : Int64)), (.long (0 : Int64)), (.long (0 : Int64)), (.long (0 : Int64)), (.long (0 : Int64)), (.long (0 : Int64))] (.long (0 : Int64)) := Arv.set Ar12 q12 Sz12 Nz12 Hs12 Gs12 rfl W13 3 rfl (Nat.le_of_ble_eq_true rfl)
  have Z14 : n0 ≤ h13.size := Nat.le_trans Z11 (Keep.of_wr W13).1
  have N13 := Fr.snoc X13 N10 g_b1
  obtain ⟨cl15, Ar15, q15, Sz15, Nz15, Hs15, Gs15⟩ := id V13
  have hin15 : ¬ ((4 : Int32) < 0 ∨ cl15.slots.size ≤ ((4 : Int32)).toNatClampNeg) := inb_of Sz15 ⟨by decide, by decide⟩
  obtain ⟨T16, h16, X16, e16, W16, st16⟩ := stJ X13 hx hZ e13 Ar15 (j := (4 : Int32)) hin15 (g := (mkF m 31 #[.val (.long q0), .second, .val (.int p2), .val (.int p3), .unset, .unset, .unset, .unset, .unset, .unset] [(.long (10000 : Int64)), (.int (4 : Int32)), (.ref b1), (.ref b1)])) rfl rfl (hb hby at_31)
  have V16 : Arv Z h16 b1 k1 .long (19 : Int32) [(.long (1 : Int64)), (.long (10 : Int64)), (.long (100 : Int64)), (.long (1000 : Int64)), (.long (10000 : Int64)), (.long (0 : Int64)), (.long (0 : Int64)), (.long (0 : Int64)), (.long (0 : Int64)), (.long (0 : Int64)), (.long (0 : Int64)), (.long (0 : Int64)), (.long (0 : Int64)), (.long (0 : Int64)), (.long (0 : Int64)), (.long (0 : Int64)), (.long (0 : Int64)), (.long (0 : Int64)), (.long (0 : Int64))] (.long (0 : Int64)) := Arv.set Ar15 q15 Sz15 Nz15 Hs15 Gs15 rfl W16 4 rfl (Nat.le_of_ble_eq_true rfl)
  have Z17 : n0 ≤ h16.size := Nat.le_trans Z14 (Keep.of_wr W16).1
  have N16 := Fr.snoc X16 N13 g_b1
  obtain ⟨cl18, Ar18, q18, Sz18, Nz18, Hs18, Gs18⟩ := id V16
  have hin18 : ¬ ((5 : Int32) < 0 ∨ cl18.slots.size ≤ ((5 : Int32)).toNatClampNeg) := inb_of Sz18 ⟨by decide, by decide⟩
  obtain ⟨T19, h19, X19, e19, W19, st19⟩ := stJ X16 hx hZ e16 Ar18 (j := (5 : Int32)) hin18 (g := (mkF m 37 #[.val (.long q0), .second, .val (.int p2), .val (.int p3), .unset, .unset, .unset, .unset, .unset, .unset] [(.long (100000 : Int64)), (.int (5 : Int32)), (.ref b1), (.ref b1)])) rfl rfl (hb hby at_37)
  have V19 : Arv Z h19 b1 k1 .long (19 : Int32) [(.long (1 : Int64)), (.long (10 : Int64)), (.long (100 : Int64)), (.long (1000 : Int64)), (.long (10000 : Int64)), (.long (100000 : Int64)), (.long (0 : Int64)), (.long (0 : Int64)), (.long (0 : Int64)), (.long (0 : Int64)), (.long (0 : Int64)), (.long (0 : Int64)), (.long (0 : Int64)), (.long (0 : Int64)), (.long (0 : Int64)), (.long (0 : Int64)), (.long (0 : Int64)), (.long (0 : Int64)), (.long (0 : Int64))] (.long (0 : Int64)) := Arv.set Ar18 q18 Sz18 Nz18 Hs18 Gs18 rfl W19 5 rfl (Nat.le_of_ble_eq_true rfl)
  have Z20 : n0 ≤ h19.size := Nat.le_trans Z17 (Keep.of_wr W19).1
  have N19 := Fr.snoc X19 N16 g_b1
  obtain ⟨cl21, Ar21, q21, Sz21, Nz21, Hs21, Gs21⟩ := id V19
  have hin21 : ¬ ((6 : Int32) < 0 ∨ cl21.slots.size ≤ ((6 : Int32)).toNatClampNeg) := inb_of Sz21 ⟨by decide, by decide⟩
  obtain ⟨T22, h22, X22, e22, W22, st22⟩ := stJ X19 hx hZ e19 Ar21 (j := (6 : Int32)) hin21 (g := (mkF m 44 #[.val (.long q0), .second, .val (.int p2), .val (.int p3), .unset, .unset, .unset, .unset, .unset, .unset] [(.long (1000000 : Int64)), (.int (6 : Int32)), (.ref b1), (.ref b1)])) rfl rfl (hb hby at_44)
  have V22 : Arv Z h22 b1 k1 .long (19 : Int32) [(.long (1 : Int64)), (.long (10 : Int64)), (.long (100 : Int64)), (.long (1000 : Int64)), (.long (10000 : Int64)), (.long (100000 : Int64)), (.long (1000000 : Int64)), (.long (0 : Int64)), (.long (0 : Int64)), (.long (0 : Int64)), (.long (0 : Int64)), (.long (0 : Int64)), (.long (0 : Int64)), (.long (0 : Int64)), (.long (0 : Int64)), (.long (0 : Int64)), (.long (0 : Int64)), (.long (0 : Int64)), (.long (0 : Int64))] (.long (0 : Int64)) := Arv.set Ar21 q21 Sz21 Nz21 Hs21 Gs21 rfl W22 6 rfl (Nat.le_of_ble_eq_true rfl)
  have Z23 : n0 ≤ h22.size := Nat.le_trans Z20 (Keep.of_wr W22).1
  have N22 := Fr.snoc X22 N19 g_b1
  obtain ⟨cl24, Ar24, q24, Sz24, Nz24, Hs24, Gs24⟩ := id V22
  have hin24 : ¬ ((7 : Int32) < 0 ∨ cl24.slots.size ≤ ((7 : Int32)).toNatClampNeg) := inb_of Sz24 ⟨by decide, by decide⟩
  obtain ⟨T25, h25, X25, e25, W25, st25⟩ := stJ X22 hx hZ e22 Ar24 (j := (7 : Int32)) hin24 (g := (mkF m 51 #[.val (.long q0), .second, .val (.int p2), .val (.int p3), .unset, .unset, .unset, .unset, .unset, .unset] [(.long (10000000 : Int64)), (.int (7 : Int32)), (.ref b1), (.ref b1)])) rfl rfl (hb hby at_51)
  have V25 : Arv Z h25 b1 k1 .long (19 : Int32) [(.long (1 : Int64)), (.long (10 : Int64)), (.long (100 : Int64)), (.long (1000 : Int64)), (.long (10000 : Int64)), (.long (100000 : Int64)), (.long (1000000 : Int64)), (.long (10000000 : Int64)), (.long (0 : Int64)), (.long (0 : Int64)), (.long (0 : Int64)), (.long (0 : Int64)), (.long (0 : Int64)), (.long (0 : Int64)), (.long (0 : Int64)), (.long (0 : Int64)), (.long (0 : Int64)), (.long (0 : Int64)), (.long (0 : Int64))] (.long (0 : Int64)) := Arv.set Ar24 q24 Sz24 Nz24 Hs24 Gs24 rfl W25 7 rfl (Nat.le_of_ble_eq_true rfl)
  have Z26 : n0 ≤ h25.size := Nat.le_trans Z23 (Keep.of_wr W25).1
  have N25 := Fr.snoc X25 N22 g_b1
  obtain ⟨cl27, Ar27, q27, Sz27, Nz27, Hs27, Gs27⟩ := id V25
  have hin27 : ¬ ((8 : Int32) < 0 ∨ cl27.slots.size ≤ ((8 : Int32)).toNatClampNeg) := inb_of Sz27 ⟨by decide, by decide⟩
  obtain ⟨T28, h28, X28, e28, W28, st28⟩ := stJ X25 hx hZ e25 Ar27 (j := (8 : Int32)) hin27 (g := (mkF m 58 #[.val (.long q0), .second, .val (.int p2), .val (.int p3), .unset, .unset, .unset, .unset, .unset, .unset] [(.long (100000000 : Int64)), (.int (8 : Int32)), (.ref b1), (.ref b1)])) rfl rfl (hb hby at_58)
  have V28 : Arv Z h28 b1 k1 .long (19 : Int32) [(.long (1 : Int64)), (.long (10 : Int64)), (.long (100 : Int64)), (.long (1000 : Int64)), (.long (10000 : Int64)), (.long (100000 : Int64)), (.long (1000000 : Int64)), (.long (10000000 : Int64)), (.long (100000000 : Int64)), (.long (0 : Int64)), (.long (0 : Int64)), (.long (0 : Int64)), (.long (0 : Int64)), (.long (0 : Int64)), (.long (0 : Int64)), (.long (0 : Int64)), (.long (0 : Int64)), (.long (0 : Int64)), (.long (0 : Int64))] (.long (0 : Int64)) := Arv.set Ar27 q27 Sz27 Nz27 Hs27 Gs27 rfl W28 8 rfl (Nat.le_of_ble_eq_true rfl)
  have Z29 : n0 ≤ h28.size := Nat.le_trans Z26 (Keep.of_wr W28).1
  have N28 := Fr.snoc X28 N25 g_b1
  obtain ⟨cl30, Ar30, q30, Sz30, Nz30, Hs30, Gs30⟩ := id V28
  have hin30 : ¬ ((9 : Int32) < 0 ∨ cl30.slots.size ≤ ((9 : Int32)).toNatClampNeg) := inb_of Sz30 ⟨by decide, by decide⟩
  obtain ⟨T31, h31, X31, e31, W31, st31⟩ := stJ X28 hx hZ e28 Ar30 (j := (9 : Int32)) hin30 (g := (mkF m 65 #[.val (.long q0), .second, .val (.int p2), .val (.int p3), .unset, .unset, .unset, .unset, .unset, .unset] [(.long (1000000000 : Int64)), (.int (9 : Int32)), (.ref b1), (.ref b1)])) rfl rfl (hb hby at_65)
  have V31 : Arv Z h31 b1 k1 .long (19 : Int32) [(.long (1 : Int64)), (.long (10 : Int64)), (.long (100 : Int64)), (.long (1000 : Int64)), (.long (10000 : Int64)), (.long (100000 : Int64)), (.long (1000000 : Int64)), (.long (10000000 : Int64)), (.long (100000000 : Int64)), (.long (1000000000 : Int64)), (.long (0 : Int64)), (.long (0 : Int64)), (.long (0 : Int64)), (.long (0 : Int64)), (.long (0 : Int64)), (.long (0 : Int64)), (.long (0 : Int64)), (.long (0 : Int64)), (.long (0 : Int64))] (.long (0 : Int64)) := Arv.set Ar30 q30 Sz30 Nz30 Hs30 Gs30 rfl W31 9 rfl (Nat.le_of_ble_eq_true rfl)
  have Z32 : n0 ≤ h31.size := Nat.le_trans Z29 (Keep.of_wr W31).1
  have N31 := Fr.snoc X31 N28 g_b1
  obtain ⟨cl33, Ar33, q33, Sz33, Nz33, Hs33, Gs33⟩ := id V31
  have hin33 : ¬ ((10 : Int32) < 0 ∨ cl33.slots.size ≤ ((10 : Int32)).toNatClampNeg) := inb_of Sz33 ⟨by decide, by decide⟩
  obtain ⟨T34, h34, X34, e34, W34, st34⟩ := stJ X31 hx hZ e31 Ar33 (j := (10 : Int32)) hin33 (g := (mkF m 72 #[.val (.long q0), .second, .val (.int p2), .val (.int p3), .unset, .unset, .unset, .unset, .unset, .unset] [(.long (10000000000 : Int64)), (.int (10 : Int32)), (.ref b1), (.ref b1)])) rfl rfl (hb hby at_72)
  have V34 : Arv Z h34 b1 k1 .long (19 : Int32) [(.long (1 : Int64)), (.long (10 : Int64)), (.long (100 : Int64)), (.long (1000 : Int64)), (.long (10000 : Int64)), (.long (100000 : Int64)), (.long (1000000 : Int64)), (.long (10000000 : Int64)), (.long (100000000 : Int64)), (.long (1000000000 : Int64)), (.long (10000000000 : Int64)), (.long (0 : Int64)), (.long (0 : Int64)), (.long (0 : Int64)), (.long (0 : Int64)), (.long (0 : Int64)), (.long (0 : Int64)), (.long (0 : Int64)), (.long (0 : Int64))] (.long (0 : Int64)) := Arv.set Ar33 q33 Sz33 Nz33 Hs33 Gs33 rfl W34 10 rfl (Nat.le_of_ble_eq_true rfl)
  have Z35 : n0 ≤ h34.size := Nat.le_trans Z32 (Keep.of_wr W34).1
  have N34 := Fr.snoc X34 N31 g_b1
  obtain ⟨cl36, Ar36, q36, Sz36, Nz36, Hs36, Gs36⟩ := id V34
  have hin36 : ¬ ((11 : Int32) < 0 ∨ cl36.slots.size ≤ ((11 : Int32)).toNatClampNeg) := inb_of Sz36 ⟨by decide, by decide⟩
  obtain ⟨T37, h37, X37, e37, W37, st37⟩ := stJ X34 hx hZ e34 Ar36 (j := (11 : Int32)) hin36 (g := (mkF m 79 #[.val (.long q0), .second, .val (.int p2), .val (.int p3), .unset, .unset, .unset, .unset, .unset, .unset] [(.long (100000000000 : Int64)), (.int (11 : Int32)), (.ref b1), (.ref b1)])) rfl rfl (hb hby at_79)
  have V37 : Arv Z h37 b1 k1 .long (19 : Int32) [(.long (1 : Int64)), (.long (10 : Int64)), (.long (100 : Int64)), (.long (1000 : Int64)), (.long (10000 : Int64)), (.long (100000 : Int64)), (.long (1000000 : Int64)), (.long (10000000 : Int64)), (.long (100000000 : Int64)), (.long (1000000000 : Int64)), (.long (10000000000 : Int64)), (.long (100000000000 : Int64)), (.long (0 : Int64)), (.long (0 : Int64)), (.long (0 : Int64)), (.long (0 : Int64)), (.long (0 : Int64)), (.long (0 : Int64)), (.long (0 : Int64))] (.long (0 : Int64)) := Arv.set Ar36 q36 Sz36 Nz36 Hs36 Gs36 rfl W37 11 rfl (Nat.le_of_ble_eq_true rfl)
  have Z38 : n0 ≤ h37.size := Nat.le_trans Z35 (Keep.of_wr W37).1
  have N37 := Fr.snoc X37 N34 g_b1
  obtain ⟨cl39, Ar39, q39, Sz39, Nz39, Hs39, Gs39⟩ := id V37
  have hin39 : ¬ ((12 : Int32) < 0 ∨ cl39.slots.size ≤ ((12 : Int32)).toNatClampNeg) := inb_of Sz39 ⟨by decide, by decide⟩
  obtain ⟨T40, h40, X40, e40, W40, st40⟩ := stJ X37 hx hZ e37 Ar39 (j := (12 : Int32)) hin39 (g := (mkF m 86 #[.val (.long q0), .second, .val (.int p2), .val (.int p3), .unset, .unset, .unset, .unset, .unset, .unset] [(.long (1000000000000 : Int64)), (.int (12 : Int32)), (.ref b1), (.ref b1)])) rfl rfl (hb hby at_86)
  have V40 : Arv Z h40 b1 k1 .long (19 : Int32) [(.long (1 : Int64)), (.long (10 : Int64)), (.long (100 : Int64)), (.long (1000 : Int64)), (.long (10000 : Int64)), (.long (100000 : Int64)), (.long (1000000 : Int64)), (.long (10000000 : Int64)), (.long (100000000 : Int64)), (.long (1000000000 : Int64)), (.long (10000000000 : Int64)), (.long (100000000000 : Int64)), (.long (1000000000000 : Int64)), (.long (0 : Int64)), (.long (0 : Int64)), (.long (0 : Int64)), (.long (0 : Int64)), (.long (0 : Int64)), (.long (0 : Int64))] (.long (0 : Int64)) := Arv.set Ar39 q39 Sz39 Nz39 Hs39 Gs39 rfl W40 12 rfl (Nat.le_of_ble_eq_true rfl)
  have Z41 : n0 ≤ h40.size := Nat.le_trans Z38 (Keep.of_wr W40).1
  have N40 := Fr.snoc X40 N37 g_b1
  obtain ⟨cl42, Ar42, q42, Sz42, Nz42, Hs42, Gs42⟩ := id V40
  have hin42 : ¬ ((13 : Int32) < 0 ∨ cl42.slots.size ≤ ((13 : Int32)).toNatClampNeg) := inb_of Sz42 ⟨by decide, by decide⟩
  obtain ⟨T43, h43, X43, e43, W43, st43⟩ := stJ X40 hx hZ e40 Ar42 (j := (13 : Int32)) hin42 (g := (mkF m 93 #[.val (.long q0), .second, .val (.int p2), .val (.int p3), .unset, .unset, .unset, .unset, .unset, .unset] [(.long (10000000000000 : Int64)), (.int (13 : Int32)), (.ref b1), (.ref b1)])) rfl rfl (hb hby at_93)
  have V43 : Arv Z h43 b1 k1 .long (19 : Int32) [(.long (1 : Int64)), (.long (10 : Int64)), (.long (100 : Int64)), (.long (1000 : Int64)), (.long (10000 : Int64)), (.long (100000 : Int64)), (.long (1000000 : Int64)), (.long (10000000 : Int64)), (.long (100000000 : Int64)), (.long (1000000000 : Int64)), (.long (10000000000 : Int64)), (.long (100000000000 : Int64)), (.long (1000000000000 : Int64)), (.long (10000000000000 : Int64)), (.long (0 : Int64)), (.long (0 : Int64)), (.long (0 : Int64)), (.long (0 : Int64)), (.long (0 : Int64))] (.long (0 : Int64)) := Arv.set Ar42 q42 Sz42 Nz42 Hs42 Gs42 rfl W43 13 rfl (Nat.le_of_ble_eq_true rfl)
  have Z44 : n0 ≤ h43.size := Nat.le_trans Z41 (Keep.of_wr W43).1
  have N43 := Fr.snoc X43 N40 g_b1
  obtain ⟨cl45, Ar45, q45, Sz45, Nz45, Hs45, Gs45⟩ := id V43
  have hin45 : ¬ ((14 : Int32) < 0 ∨ cl45.slots.size ≤ ((14 : Int32)).toNatClampNeg) := inb_of Sz45 ⟨by decide, by decide⟩
  obtain ⟨T46, h46, X46, e46, W46, st46⟩ := stJ X43 hx hZ e43 Ar45 (j := (14 : Int32)) hin45 (g := (mkF m 100 #[.val (.long q0), .second, .val (.int p2), .val (.int p3), .unset, .unset, .unset, .unset, .unset, .unset] [(.long (100000000000000 : Int64)), (.int (14 : Int32)), (.ref b1), (.ref b1)])) rfl rfl (hb hby at_100)
  have V46 : Arv Z h46 b1 k1 .long (19 : Int32) [(.long (1 : Int64)), (.long (10 : Int64)), (.long (100 : Int64)), (.long (1000 : Int64)), (.long (10000 : Int64)), (.long (100000 : Int64)), (.long (1000000 : Int64)), (.long (10000000 : Int64)), (.long (100000000 : Int64)), (.long (1000000000 : Int64)), (.long (10000000000 : Int64)), (.long (100000000000 : Int64)), (.long (1000000000000 : Int64)), (.long (10000000000000 : Int64)), (.long (100000000000000 : Int64)), (.long (0 : Int64)), (.long (0 : Int64)), (.long (0 : Int64)), (.long (0 : Int64))] (.long (0 : Int64)) := Arv.set Ar45 q45 Sz45 Nz45 Hs45 Gs45 rfl W46 14 rfl (Nat.le_of_ble_eq_true rfl)
  have Z47 : n0 ≤ h46.size := Nat.le_trans Z44 (Keep.of_wr W46).1
  have N46 := Fr.snoc X46 N43 g_b1
  obtain ⟨cl48, Ar48, q48, Sz48, Nz48, Hs48, Gs48⟩ := id V46
  have hin48 : ¬ ((15 : Int32) < 0 ∨ cl48.slots.size ≤ ((15 : Int32)).toNatClampNeg) := inb_of Sz48 ⟨by decide, by decide⟩
  obtain ⟨T49, h49, X49, e49, W49, st49⟩ := stJ X46 hx hZ e46 Ar48 (j := (15 : Int32)) hin48 (g := (mkF m 107 #[.val (.long q0), .second, .val (.int p2), .val (.int p3), .unset, .unset, .unset, .unset, .unset, .unset] [(.long (1000000000000000 : Int64)), (.int (15 : Int32)), (.ref b1), (.ref b1)])) rfl rfl (hb hby at_107)
  have V49 : Arv Z h49 b1 k1 .long (19 : Int32) [(.long (1 : Int64)), (.long (10 : Int64)), (.long (100 : Int64)), (.long (1000 : Int64)), (.long (10000 : Int64)), (.long (100000 : Int64)), (.long (1000000 : Int64)), (.long (10000000 : Int64)), (.long (100000000 : Int64)), (.long (1000000000 : Int64)), (.long (10000000000 : Int64)), (.long (100000000000 : Int64)), (.long (1000000000000 : Int64)), (.long (10000000000000 : Int64)), (.long (100000000000000 : Int64)), (.long (1000000000000000 : Int64)), (.long (0 : Int64)), (.long (0 : Int64)), (.long (0 : Int64))] (.long (0 : Int64)) := Arv.set Ar48 q48 Sz48 Nz48 Hs48 Gs48 rfl W49 15 rfl (Nat.le_of_ble_eq_true rfl)
  have Z50 : n0 ≤ h49.size := Nat.le_trans Z47 (Keep.of_wr W49).1
  have N49 := Fr.snoc X49 N46 g_b1
  obtain ⟨cl51, Ar51, q51, Sz51, Nz51, Hs51, Gs51⟩ := id V49
  have hin51 : ¬ ((16 : Int32) < 0 ∨ cl51.slots.size ≤ ((16 : Int32)).toNatClampNeg) := inb_of Sz51 ⟨by decide, by decide⟩
  obtain ⟨T52, h52, X52, e52, W52, st52⟩ := stJ X49 hx hZ e49 Ar51 (j := (16 : Int32)) hin51 (g := (mkF m 114 #[.val (.long q0), .second, .val (.int p2), .val (.int p3), .unset, .unset, .unset, .unset, .unset, .unset] [(.long (10000000000000000 : Int64)), (.int (16 : Int32)), (.ref b1), (.ref b1)])) rfl rfl (hb hby at_114)
  have V52 : Arv Z h52 b1 k1 .long (19 : Int32) [(.long (1 : Int64)), (.long (10 : Int64)), (.long (100 : Int64)), (.long (1000 : Int64)), (.long (10000 : Int64)), (.long (100000 : Int64)), (.long (1000000 : Int64)), (.long (10000000 : Int64)), (.long (100000000 : Int64)), (.long (1000000000 : Int64)), (.long (10000000000 : Int64)), (.long (100000000000 : Int64)), (.long (1000000000000 : Int64)), (.long (10000000000000 : Int64)), (.long (100000000000000 : Int64)), (.long (1000000000000000 : Int64)), (.long (10000000000000000 : Int64)), (.long (0 : Int64)), (.long (0 : Int64))] (.long (0 : Int64)) := Arv.set Ar51 q51 Sz51 Nz51 Hs51 Gs51 rfl W52 16 rfl (Nat.le_of_ble_eq_true rfl)
  have Z53 : n0 ≤ h52.size := Nat.le_trans Z50 (Keep.of_wr W52).1
  have N52 := Fr.snoc X52 N49 g_b1
  obtain ⟨cl54, Ar54, q54, Sz54, Nz54, Hs54, Gs54⟩ := id V52
  have hin54 : ¬ ((17 : Int32) < 0 ∨ cl54.slots.size ≤ ((17 : Int32)).toNatClampNeg) := inb_of Sz54 ⟨by decide, by decide⟩
  obtain ⟨T55, h55, X55, e55, W55, st55⟩ := stJ X52 hx hZ e52 Ar54 (j := (17 : Int32)) hin54 (g := (mkF m 121 #[.val (.long q0), .second, .val (.int p2), .val (.int p3), .unset, .unset, .unset, .unset, .unset, .unset] [(.long (100000000000000000 : Int64)), (.int (17 : Int32)), (.ref b1), (.ref b1)])) rfl rfl (hb hby at_121)
  have V55 : Arv Z h55 b1 k1 .long (19 : Int32) [(.long (1 : Int64)), (.long (10 : Int64)), (.long (100 : Int64)), (.long (1000 : Int64)), (.long (10000 : Int64)), (.long (100000 : Int64)), (.long (1000000 : Int64)), (.long (10000000 : Int64)), (.long (100000000 : Int64)), (.long (1000000000 : Int64)), (.long (10000000000 : Int64)), (.long (100000000000 : Int64)), (.long (1000000000000 : Int64)), (.long (10000000000000 : Int64)), (.long (100000000000000 : Int64)), (.long (1000000000000000 : Int64)), (.long (10000000000000000 : Int64)), (.long (100000000000000000 : Int64)), (.long (0 : Int64))] (.long (0 : Int64)) := Arv.set Ar54 q54 Sz54 Nz54 Hs54 Gs54 rfl W55 17 rfl (Nat.le_of_ble_eq_true rfl)
  have Z56 : n0 ≤ h55.size := Nat.le_trans Z53 (Keep.of_wr W55).1
  have N55 := Fr.snoc X55 N52 g_b1
  obtain ⟨cl57, Ar57, q57, Sz57, Nz57, Hs57, Gs57⟩ := id V55
  have hin57 : ¬ ((18 : Int32) < 0 ∨ cl57.slots.size ≤ ((18 : Int32)).toNatClampNeg) := inb_of Sz57 ⟨by decide, by decide⟩
  obtain ⟨T58, h58, X58, e58, W58, st58⟩ := stJ X55 hx hZ e55 Ar57 (j := (18 : Int32)) hin57 (g := (mkF m 128 #[.val (.long q0), .second, .val (.int p2), .val (.int p3), .unset, .unset, .unset, .unset, .unset, .unset] [(.long (1000000000000000000 : Int64)), (.int (18 : Int32)), (.ref b1), (.ref b1)])) rfl rfl (hb hby at_128)
  have V58 : Arv Z h58 b1 k1 .long (19 : Int32) [(.long (1 : Int64)), (.long (10 : Int64)), (.long (100 : Int64)), (.long (1000 : Int64)), (.long (10000 : Int64)), (.long (100000 : Int64)), (.long (1000000 : Int64)), (.long (10000000 : Int64)), (.long (100000000 : Int64)), (.long (1000000000 : Int64)), (.long (10000000000 : Int64)), (.long (100000000000 : Int64)), (.long (1000000000000 : Int64)), (.long (10000000000000 : Int64)), (.long (100000000000000 : Int64)), (.long (1000000000000000 : Int64)), (.long (10000000000000000 : Int64)), (.long (100000000000000000 : Int64)), (.long (1000000000000000000 : Int64))] (.long (0 : Int64)) := Arv.set Ar57 q57 Sz57 Nz57 Hs57 Gs57 rfl W58 18 rfl (Nat.le_of_ble_eq_true rfl)
  have Z59 : n0 ≤ h58.size := Nat.le_trans Z56 (Keep.of_wr W58).1
  have N58 := Fr.snoc X58 N55 g_b1
  have pre60 : ∀ t, Steps p.tables e below (T58.setTop (mkF m 134 #[.val (.long q0), .second, .val (.int p2), .val (.int p3), .val (.ref b1), .unset, .unset, .unset, .unset, .unset] [(.int (p3 &&& (1 : Int32)))])) t → Steps p.tables e below (s₁.setTop (entryFrame m #[(.long q0), (.int p2), (.int p3)] maxLocals)) t := fun t k => by
    refine pre0 t ?_
    show Steps p.tables e below (s₁.setTop (mkF m 0 #[.val (.long q0), .second, .val (.int p2), .val (.int p3), .unset, .unset, .unset, .unset, .unset, .unset] [])) _
    refine XS.bipush X0.here hx rfl (hb hby at_0) ?_
    show Steps p.tables e below (s₁.setTop (mkF m 2 #[.val (.long q0), .second, .val (.int p2), .val (.int p3), .unset, .unset, .unset, .unset, .unset, .unset] [(.int (19 : Int32))])) _
    refine st1 _ ?_
    show Steps p.tables e below (T1.setTop (mkF m 4 #[.val (.long q0), .second, .val (.int p2), .val (.int p3), .unset, .unset, .unset, .unset, .unset, .unset] [(.ref b1)])) _
    refine XS.dup X1.here hx rfl (hb hby at_4) rfl rfl ?_
    show Steps p.tables e below (T1.setTop (mkF m 5 #[.val (.long q0), .second, .val (.int p2), .val (.int p3), .unset, .unset, .unset, .unset, .unset, .unset] [(.ref b1), (.ref b1)])) _
    refine XS.iconst X1.here hx rfl (hb hby at_5) ?_
    show Steps p.tables e below (T1.setTop (mkF m 6 #[.val (.long q0), .second, .val (.int p2), .val (.int p3), .unset, .unset, .unset, .unset, .unset, .unset] [(.int (0 : Int32)), (.ref b1), (.ref b1)])) _
    refine XS.lconst X1.here hx rfl (hb hby at_6) ?_
    show Steps p.tables e below (T1.setTop (mkF m 7 #[.val (.long q0), .second, .val (.int p2), .val (.int p3), .unset, .unset, .unset, .unset, .unset, .unset] [(.long (1 : Int64)), (.int (0 : Int32)), (.ref b1), (.ref b1)])) _
    refine st4 _ ?_
    show Steps p.tables e below (T4.setTop (mkF m 8 #[.val (.long q0), .second, .val (.int p2), .val (.int p3), .unset, .unset, .unset, .unset, .unset, .unset] [(.ref b1)])) _
    refine XS.dup X4.here hx rfl (hb hby at_8) rfl rfl ?_
    show Steps p.tables e below (T4.setTop (mkF m 9 #[.val (.long q0), .second, .val (.int p2), .val (.int p3), .unset, .unset, .unset, .unset, .unset, .unset] [(.ref b1), (.ref b1)])) _
    refine XS.iconst X4.here hx rfl (hb hby at_9) ?_
    show Steps p.tables e below (T4.setTop (mkF m 10 #[.val (.long q0), .second, .val (.int p2), .val (.int p3), .unset, .unset, .unset, .unset, .unset, .unset] [(.int (1 : Int32)), (.ref b1), (.ref b1)])) _
    refine X4.ldc2Long hx hown (mvT hZ (hw _ (List.mem_of_getElem? (i := 1) rfl))) (g := (mkF m 10 #[.val (.long q0), .second, .val (.int p2), .val (.int p3), .unset, .unset, .unset, .unset, .unset, .unset] [(.int (1 : Int32)), (.ref b1), (.ref b1)])) rfl (hb hby at_10) _ ?_
    show Steps p.tables e below (T4.setTop (mkF m 13 #[.val (.long q0), .second, .val (.int p2), .val (.int p3), .unset, .unset, .unset, .unset, .unset, .unset] [(.long (10 : Int64)), (.int (1 : Int32)), (.ref b1), (.ref b1)])) _
    refine st7 _ ?_
    show Steps p.tables e below (T7.setTop (mkF m 14 #[.val (.long q0), .second, .val (.int p2), .val (.int p3), .unset, .unset, .unset, .unset, .unset, .unset] [(.ref b1)])) _
    refine XS.dup X7.here hx rfl (hb hby at_14) rfl rfl ?_
    show Steps p.tables e below (T7.setTop (mkF m 15 #[.val (.long q0), .second, .val (.int p2), .val (.int p3), .unset, .unset, .unset, .unset, .unset, .unset] [(.ref b1), (.ref b1)])) _
    refine XS.iconst X7.here hx rfl (hb hby at_15) ?_
    show Steps p.tables e below (T7.setTop (mkF m 16 #[.val (.long q0), .second, .val (.int p2), .val (.int p3), .unset, .unset, .unset, .unset, .unset, .unset] [(.int (2 : Int32)), (.ref b1), (.ref b1)])) _
    refine X7.ldc2Long hx hown (mvT hZ (hw _ (List.mem_of_getElem? (i := 2) rfl))) (g := (mkF m 16 #[.val (.long q0), .second, .val (.int p2), .val (.int p3), .unset, .unset, .unset, .unset, .unset, .unset] [(.int (2 : Int32)), (.ref b1), (.ref b1)])) rfl (hb hby at_16) _ ?_
    show Steps p.tables e below (T7.setTop (mkF m 19 #[.val (.long q0), .second, .val (.int p2), .val (.int p3), .unset, .unset, .unset, .unset, .unset, .unset] [(.long (100 : Int64)), (.int (2 : Int32)), (.ref b1), (.ref b1)])) _
    refine st10 _ ?_
    show Steps p.tables e below (T10.setTop (mkF m 20 #[.val (.long q0), .second, .val (.int p2), .val (.int p3), .unset, .unset, .unset, .unset, .unset, .unset] [(.ref b1)])) _
    refine XS.dup X10.here hx rfl (hb hby at_20) rfl rfl ?_
    show Steps p.tables e below (T10.setTop (mkF m 21 #[.val (.long q0), .second, .val (.int p2), .val (.int p3), .unset, .unset, .unset, .unset, .unset, .unset] [(.ref b1), (.ref b1)])) _
    refine XS.iconst X10.here hx rfl (hb hby at_21) ?_
    show Steps p.tables e below (T10.setTop (mkF m 22 #[.val (.long q0), .second, .val (.int p2), .val (.int p3), .unset, .unset, .unset, .unset, .unset, .unset] [(.int (3 : Int32)), (.ref b1), (.ref b1)])) _
    refine X10.ldc2Long hx hown (mvT hZ (hw _ (List.mem_of_getElem? (i := 3) rfl))) (g := (mkF m 22 #[.val (.long q0), .second, .val (.int p2), .val (.int p3), .unset, .unset, .unset, .unset, .unset, .unset] [(.int (3 : Int32)), (.ref b1), (.ref b1)])) rfl (hb hby at_22) _ ?_
    show Steps p.tables e below (T10.setTop (mkF m 25 #[.val (.long q0), .second, .val (.int p2), .val (.int p3), .unset, .unset, .unset, .unset, .unset, .unset] [(.long (1000 : Int64)), (.int (3 : Int32)), (.ref b1), (.ref b1)])) _
    refine st13 _ ?_
    show Steps p.tables e below (T13.setTop (mkF m 26 #[.val (.long q0), .second, .val (.int p2), .val (.int p3), .unset, .unset, .unset, .unset, .unset, .unset] [(.ref b1)])) _
    refine XS.dup X13.here hx rfl (hb hby at_26) rfl rfl ?_
    show Steps p.tables e below (T13.setTop (mkF m 27 #[.val (.long q0), .second, .val (.int p2), .val (.int p3), .unset, .unset, .unset, .unset, .unset, .unset] [(.ref b1), (.ref b1)])) _
    refine XS.iconst X13.here hx rfl (hb hby at_27) ?_
    show Steps p.tables e below (T13.setTop (mkF m 28 #[.val (.long q0), .second, .val (.int p2), .val (.int p3), .unset, .unset, .unset, .unset, .unset, .unset] [(.int (4 : Int32)), (.ref b1), (.ref b1)])) _
    refine X13.ldc2Long hx hown (mvT hZ (hw _ (List.mem_of_getElem? (i := 4) rfl))) (g := (mkF m 28 #[.val (.long q0), .second, .val (.int p2), .val (.int p3), .unset, .unset, .unset, .unset, .unset, .unset] [(.int (4 : Int32)), (.ref b1), (.ref b1)])) rfl (hb hby at_28) _ ?_
    show Steps p.tables e below (T13.setTop (mkF m 31 #[.val (.long q0), .second, .val (.int p2), .val (.int p3), .unset, .unset, .unset, .unset, .unset, .unset] [(.long (10000 : Int64)), (.int (4 : Int32)), (.ref b1), (.ref b1)])) _
    refine st16 _ ?_
    show Steps p.tables e below (T16.setTop (mkF m 32 #[.val (.long q0), .second, .val (.int p2), .val (.int p3), .unset, .unset, .unset, .unset, .unset, .unset] [(.ref b1)])) _
    refine XS.dup X16.here hx rfl (hb hby at_32) rfl rfl ?_
    show Steps p.tables e below (T16.setTop (mkF m 33 #[.val (.long q0), .second, .val (.int p2), .val (.int p3), .unset, .unset, .unset, .unset, .unset, .unset] [(.ref b1), (.ref b1)])) _
    refine XS.iconst X16.here hx rfl (hb hby at_33) ?_
    show Steps p.tables e below (T16.setTop (mkF m 34 #[.val (.long q0), .second, .val (.int p2), .val (.int p3), .unset, .unset, .unset, .unset, .unset, .unset] [(.int (5 : Int32)), (.ref b1), (.ref b1)])) _
    refine X16.ldc2Long hx hown (mvT hZ (hw _ (List.mem_of_getElem? (i := 5) rfl))) (g := (mkF m 34 #[.val (.long q0), .second, .val (.int p2), .val (.int p3), .unset, .unset, .unset, .unset, .unset, .unset] [(.int (5 : Int32)), (.ref b1), (.ref b1)])) rfl (hb hby at_34) _ ?_
    show Steps p.tables e below (T16.setTop (mkF m 37 #[.val (.long q0), .second, .val (.int p2), .val (.int p3), .unset, .unset, .unset, .unset, .unset, .unset] [(.long (100000 : Int64)), (.int (5 : Int32)), (.ref b1), (.ref b1)])) _
    refine st19 _ ?_
    show Steps p.tables e below (T19.setTop (mkF m 38 #[.val (.long q0), .second, .val (.int p2), .val (.int p3), .unset, .unset, .unset, .unset, .unset, .unset] [(.ref b1)])) _
    refine XS.dup X19.here hx rfl (hb hby at_38) rfl rfl ?_
    show Steps p.tables e below (T19.setTop (mkF m 39 #[.val (.long q0), .second, .val (.int p2), .val (.int p3), .unset, .unset, .unset, .unset, .unset, .unset] [(.ref b1), (.ref b1)])) _
    refine XS.bipush X19.here hx rfl (hb hby at_39) ?_
    show Steps p.tables e below (T19.setTop (mkF m 41 #[.val (.long q0), .second, .val (.int p2), .val (.int p3), .unset, .unset, .unset, .unset, .unset, .unset] [(.int (6 : Int32)), (.ref b1), (.ref b1)])) _
    refine X19.ldc2Long hx hown (mvT hZ (hw _ (List.mem_of_getElem? (i := 6) rfl))) (g := (mkF m 41 #[.val (.long q0), .second, .val (.int p2), .val (.int p3), .unset, .unset, .unset, .unset, .unset, .unset] [(.int (6 : Int32)), (.ref b1), (.ref b1)])) rfl (hb hby at_41) _ ?_
    show Steps p.tables e below (T19.setTop (mkF m 44 #[.val (.long q0), .second, .val (.int p2), .val (.int p3), .unset, .unset, .unset, .unset, .unset, .unset] [(.long (1000000 : Int64)), (.int (6 : Int32)), (.ref b1), (.ref b1)])) _
    refine st22 _ ?_
    show Steps p.tables e below (T22.setTop (mkF m 45 #[.val (.long q0), .second, .val (.int p2), .val (.int p3), .unset, .unset, .unset, .unset, .unset, .unset] [(.ref b1)])) _
    refine XS.dup X22.here hx rfl (hb hby at_45) rfl rfl ?_
    show Steps p.tables e below (T22.setTop (mkF m 46 #[.val (.long q0), .second, .val (.int p2), .val (.int p3), .unset, .unset, .unset, .unset, .unset, .unset] [(.ref b1), (.ref b1)])) _
    refine XS.bipush X22.here hx rfl (hb hby at_46) ?_
    show Steps p.tables e below (T22.setTop (mkF m 48 #[.val (.long q0), .second, .val (.int p2), .val (.int p3), .unset, .unset, .unset, .unset, .unset, .unset] [(.int (7 : Int32)), (.ref b1), (.ref b1)])) _
    refine X22.ldc2Long hx hown (mvT hZ (hw _ (List.mem_of_getElem? (i := 7) rfl))) (g := (mkF m 48 #[.val (.long q0), .second, .val (.int p2), .val (.int p3), .unset, .unset, .unset, .unset, .unset, .unset] [(.int (7 : Int32)), (.ref b1), (.ref b1)])) rfl (hb hby at_48) _ ?_
    show Steps p.tables e below (T22.setTop (mkF m 51 #[.val (.long q0), .second, .val (.int p2), .val (.int p3), .unset, .unset, .unset, .unset, .unset, .unset] [(.long (10000000 : Int64)), (.int (7 : Int32)), (.ref b1), (.ref b1)])) _
    refine st25 _ ?_
    show Steps p.tables e below (T25.setTop (mkF m 52 #[.val (.long q0), .second, .val (.int p2), .val (.int p3), .unset, .unset, .unset, .unset, .unset, .unset] [(.ref b1)])) _
    refine XS.dup X25.here hx rfl (hb hby at_52) rfl rfl ?_
    show Steps p.tables e below (T25.setTop (mkF m 53 #[.val (.long q0), .second, .val (.int p2), .val (.int p3), .unset, .unset, .unset, .unset, .unset, .unset] [(.ref b1), (.ref b1)])) _
    refine XS.bipush X25.here hx rfl (hb hby at_53) ?_
    show Steps p.tables e below (T25.setTop (mkF m 55 #[.val (.long q0), .second, .val (.int p2), .val (.int p3), .unset, .unset, .unset, .unset, .unset, .unset] [(.int (8 : Int32)), (.ref b1), (.ref b1)])) _
    refine X25.ldc2Long hx hown (mvT hZ (hw _ (List.mem_of_getElem? (i := 8) rfl))) (g := (mkF m 55 #[.val (.long q0), .second, .val (.int p2), .val (.int p3), .unset, .unset, .unset, .unset, .unset, .unset] [(.int (8 : Int32)), (.ref b1), (.ref b1)])) rfl (hb hby at_55) _ ?_
    show Steps p.tables e below (T25.setTop (mkF m 58 #[.val (.long q0), .second, .val (.int p2), .val (.int p3), .unset, .unset, .unset, .unset, .unset, .unset] [(.long (100000000 : Int64)), (.int (8 : Int32)), (.ref b1), (.ref b1)])) _
    refine st28 _ ?_
    show Steps p.tables e below (T28.setTop (mkF m 59 #[.val (.long q0), .second, .val (.int p2), .val (.int p3), .unset, .unset, .unset, .unset, .unset, .unset] [(.ref b1)])) _
    refine XS.dup X28.here hx rfl (hb hby at_59) rfl rfl ?_
    show Steps p.tables e below (T28.setTop (mkF m 60 #[.val (.long q0), .second, .val (.int p2), .val (.int p3), .unset, .unset, .unset, .unset, .unset, .unset] [(.ref b1), (.ref b1)])) _
    refine XS.bipush X28.here hx rfl (hb hby at_60) ?_
    show Steps p.tables e below (T28.setTop (mkF m 62 #[.val (.long q0), .second, .val (.int p2), .val (.int p3), .unset, .unset, .unset, .unset, .unset, .unset] [(.int (9 : Int32)), (.ref b1), (.ref b1)])) _
    refine X28.ldc2Long hx hown (mvT hZ (hw _ (List.mem_of_getElem? (i := 9) rfl))) (g := (mkF m 62 #[.val (.long q0), .second, .val (.int p2), .val (.int p3), .unset, .unset, .unset, .unset, .unset, .unset] [(.int (9 : Int32)), (.ref b1), (.ref b1)])) rfl (hb hby at_62) _ ?_
    show Steps p.tables e below (T28.setTop (mkF m 65 #[.val (.long q0), .second, .val (.int p2), .val (.int p3), .unset, .unset, .unset, .unset, .unset, .unset] [(.long (1000000000 : Int64)), (.int (9 : Int32)), (.ref b1), (.ref b1)])) _
    refine st31 _ ?_
    show Steps p.tables e below (T31.setTop (mkF m 66 #[.val (.long q0), .second, .val (.int p2), .val (.int p3), .unset, .unset, .unset, .unset, .unset, .unset] [(.ref b1)])) _
    refine XS.dup X31.here hx rfl (hb hby at_66) rfl rfl ?_
    show Steps p.tables e below (T31.setTop (mkF m 67 #[.val (.long q0), .second, .val (.int p2), .val (.int p3), .unset, .unset, .unset, .unset, .unset, .unset] [(.ref b1), (.ref b1)])) _
    refine XS.bipush X31.here hx rfl (hb hby at_67) ?_
    show Steps p.tables e below (T31.setTop (mkF m 69 #[.val (.long q0), .second, .val (.int p2), .val (.int p3), .unset, .unset, .unset, .unset, .unset, .unset] [(.int (10 : Int32)), (.ref b1), (.ref b1)])) _
    refine X31.ldc2Long hx hown (mvT hZ (hw _ (List.mem_of_getElem? (i := 10) rfl))) (g := (mkF m 69 #[.val (.long q0), .second, .val (.int p2), .val (.int p3), .unset, .unset, .unset, .unset, .unset, .unset] [(.int (10 : Int32)), (.ref b1), (.ref b1)])) rfl (hb hby at_69) _ ?_
    show Steps p.tables e below (T31.setTop (mkF m 72 #[.val (.long q0), .second, .val (.int p2), .val (.int p3), .unset, .unset, .unset, .unset, .unset, .unset] [(.long (10000000000 : Int64)), (.int (10 : Int32)), (.ref b1), (.ref b1)])) _
    refine st34 _ ?_
    show Steps p.tables e below (T34.setTop (mkF m 73 #[.val (.long q0), .second, .val (.int p2), .val (.int p3), .unset, .unset, .unset, .unset, .unset, .unset] [(.ref b1)])) _
    refine XS.dup X34.here hx rfl (hb hby at_73) rfl rfl ?_
    show Steps p.tables e below (T34.setTop (mkF m 74 #[.val (.long q0), .second, .val (.int p2), .val (.int p3), .unset, .unset, .unset, .unset, .unset, .unset] [(.ref b1), (.ref b1)])) _
    refine XS.bipush X34.here hx rfl (hb hby at_74) ?_
    show Steps p.tables e below (T34.setTop (mkF m 76 #[.val (.long q0), .second, .val (.int p2), .val (.int p3), .unset, .unset, .unset, .unset, .unset, .unset] [(.int (11 : Int32)), (.ref b1), (.ref b1)])) _
    refine X34.ldc2Long hx hown (mvT hZ (hw _ (List.mem_of_getElem? (i := 11) rfl))) (g := (mkF m 76 #[.val (.long q0), .second, .val (.int p2), .val (.int p3), .unset, .unset, .unset, .unset, .unset, .unset] [(.int (11 : Int32)), (.ref b1), (.ref b1)])) rfl (hb hby at_76) _ ?_
    show Steps p.tables e below (T34.setTop (mkF m 79 #[.val (.long q0), .second, .val (.int p2), .val (.int p3), .unset, .unset, .unset, .unset, .unset, .unset] [(.long (100000000000 : Int64)), (.int (11 : Int32)), (.ref b1), (.ref b1)])) _
    refine st37 _ ?_
    show Steps p.tables e below (T37.setTop (mkF m 80 #[.val (.long q0), .second, .val (.int p2), .val (.int p3), .unset, .unset, .unset, .unset, .unset, .unset] [(.ref b1)])) _
    refine XS.dup X37.here hx rfl (hb hby at_80) rfl rfl ?_
    show Steps p.tables e below (T37.setTop (mkF m 81 #[.val (.long q0), .second, .val (.int p2), .val (.int p3), .unset, .unset, .unset, .unset, .unset, .unset] [(.ref b1), (.ref b1)])) _
    refine XS.bipush X37.here hx rfl (hb hby at_81) ?_
    show Steps p.tables e below (T37.setTop (mkF m 83 #[.val (.long q0), .second, .val (.int p2), .val (.int p3), .unset, .unset, .unset, .unset, .unset, .unset] [(.int (12 : Int32)), (.ref b1), (.ref b1)])) _
    refine X37.ldc2Long hx hown (mvT hZ (hw _ (List.mem_of_getElem? (i := 12) rfl))) (g := (mkF m 83 #[.val (.long q0), .second, .val (.int p2), .val (.int p3), .unset, .unset, .unset, .unset, .unset, .unset] [(.int (12 : Int32)), (.ref b1), (.ref b1)])) rfl (hb hby at_83) _ ?_
    show Steps p.tables e below (T37.setTop (mkF m 86 #[.val (.long q0), .second, .val (.int p2), .val (.int p3), .unset, .unset, .unset, .unset, .unset, .unset] [(.long (1000000000000 : Int64)), (.int (12 : Int32)), (.ref b1), (.ref b1)])) _
    refine st40 _ ?_
    show Steps p.tables e below (T40.setTop (mkF m 87 #[.val (.long q0), .second, .val (.int p2), .val (.int p3), .unset, .unset, .unset, .unset, .unset, .unset] [(.ref b1)])) _
    refine XS.dup X40.here hx rfl (hb hby at_87) rfl rfl ?_
    show Steps p.tables e below (T40.setTop (mkF m 88 #[.val (.long q0), .second, .val (.int p2), .val (.int p3), .unset, .unset, .unset, .unset, .unset, .unset] [(.ref b1), (.ref b1)])) _
    refine XS.bipush X40.here hx rfl (hb hby at_88) ?_
    show Steps p.tables e below (T40.setTop (mkF m 90 #[.val (.long q0), .second, .val (.int p2), .val (.int p3), .unset, .unset, .unset, .unset, .unset, .unset] [(.int (13 : Int32)), (.ref b1), (.ref b1)])) _
    refine X40.ldc2Long hx hown (mvT hZ (hw _ (List.mem_of_getElem? (i := 13) rfl))) (g := (mkF m 90 #[.val (.long q0), .second, .val (.int p2), .val (.int p3), .unset, .unset, .unset, .unset, .unset, .unset] [(.int (13 : Int32)), (.ref b1), (.ref b1)])) rfl (hb hby at_90) _ ?_
    show Steps p.tables e below (T40.setTop (mkF m 93 #[.val (.long q0), .second, .val (.int p2), .val (.int p3), .unset, .unset, .unset, .unset, .unset, .unset] [(.long (10000000000000 : Int64)), (.int (13 : Int32)), (.ref b1), (.ref b1)])) _
    refine st43 _ ?_
    show Steps p.tables e below (T43.setTop (mkF m 94 #[.val (.long q0), .second, .val (.int p2), .val (.int p3), .unset, .unset, .unset, .unset, .unset, .unset] [(.ref b1)])) _
    refine XS.dup X43.here hx rfl (hb hby at_94) rfl rfl ?_
    show Steps p.tables e below (T43.setTop (mkF m 95 #[.val (.long q0), .second, .val (.int p2), .val (.int p3), .unset, .unset, .unset, .unset, .unset, .unset] [(.ref b1), (.ref b1)])) _
    refine XS.bipush X43.here hx rfl (hb hby at_95) ?_
    show Steps p.tables e below (T43.setTop (mkF m 97 #[.val (.long q0), .second, .val (.int p2), .val (.int p3), .unset, .unset, .unset, .unset, .unset, .unset] [(.int (14 : Int32)), (.ref b1), (.ref b1)])) _
    refine X43.ldc2Long hx hown (mvT hZ (hw _ (List.mem_of_getElem? (i := 14) rfl))) (g := (mkF m 97 #[.val (.long q0), .second, .val (.int p2), .val (.int p3), .unset, .unset, .unset, .unset, .unset, .unset] [(.int (14 : Int32)), (.ref b1), (.ref b1)])) rfl (hb hby at_97) _ ?_
    show Steps p.tables e below (T43.setTop (mkF m 100 #[.val (.long q0), .second, .val (.int p2), .val (.int p3), .unset, .unset, .unset, .unset, .unset, .unset] [(.long (100000000000000 : Int64)), (.int (14 : Int32)), (.ref b1), (.ref b1)])) _
    refine st46 _ ?_
    show Steps p.tables e below (T46.setTop (mkF m 101 #[.val (.long q0), .second, .val (.int p2), .val (.int p3), .unset, .unset, .unset, .unset, .unset, .unset] [(.ref b1)])) _
    refine XS.dup X46.here hx rfl (hb hby at_101) rfl rfl ?_
    show Steps p.tables e below (T46.setTop (mkF m 102 #[.val (.long q0), .second, .val (.int p2), .val (.int p3), .unset, .unset, .unset, .unset, .unset, .unset] [(.ref b1), (.ref b1)])) _
    refine XS.bipush X46.here hx rfl (hb hby at_102) ?_
    show Steps p.tables e below (T46.setTop (mkF m 104 #[.val (.long q0), .second, .val (.int p2), .val (.int p3), .unset, .unset, .unset, .unset, .unset, .unset] [(.int (15 : Int32)), (.ref b1), (.ref b1)])) _
    refine X46.ldc2Long hx hown (mvT hZ (hw _ (List.mem_of_getElem? (i := 15) rfl))) (g := (mkF m 104 #[.val (.long q0), .second, .val (.int p2), .val (.int p3), .unset, .unset, .unset, .unset, .unset, .unset] [(.int (15 : Int32)), (.ref b1), (.ref b1)])) rfl (hb hby at_104) _ ?_
    show Steps p.tables e below (T46.setTop (mkF m 107 #[.val (.long q0), .second, .val (.int p2), .val (.int p3), .unset, .unset, .unset, .unset, .unset, .unset] [(.long (1000000000000000 : Int64)), (.int (15 : Int32)), (.ref b1), (.ref b1)])) _
    refine st49 _ ?_
    show Steps p.tables e below (T49.setTop (mkF m 108 #[.val (.long q0), .second, .val (.int p2), .val (.int p3), .unset, .unset, .unset, .unset, .unset, .unset] [(.ref b1)])) _
    refine XS.dup X49.here hx rfl (hb hby at_108) rfl rfl ?_
    show Steps p.tables e below (T49.setTop (mkF m 109 #[.val (.long q0), .second, .val (.int p2), .val (.int p3), .unset, .unset, .unset, .unset, .unset, .unset] [(.ref b1), (.ref b1)])) _
    refine XS.bipush X49.here hx rfl (hb hby at_109) ?_
    show Steps p.tables e below (T49.setTop (mkF m 111 #[.val (.long q0), .second, .val (.int p2), .val (.int p3), .unset, .unset, .unset, .unset, .unset, .unset] [(.int (16 : Int32)), (.ref b1), (.ref b1)])) _
    refine X49.ldc2Long hx hown (mvT hZ (hw _ (List.mem_of_getElem? (i := 16) rfl))) (g := (mkF m 111 #[.val (.long q0), .second, .val (.int p2), .val (.int p3), .unset, .unset, .unset, .unset, .unset, .unset] [(.int (16 : Int32)), (.ref b1), (.ref b1)])) rfl (hb hby at_111) _ ?_
    show Steps p.tables e below (T49.setTop (mkF m 114 #[.val (.long q0), .second, .val (.int p2), .val (.int p3), .unset, .unset, .unset, .unset, .unset, .unset] [(.long (10000000000000000 : Int64)), (.int (16 : Int32)), (.ref b1), (.ref b1)])) _
    refine st52 _ ?_
    show Steps p.tables e below (T52.setTop (mkF m 115 #[.val (.long q0), .second, .val (.int p2), .val (.int p3), .unset, .unset, .unset, .unset, .unset, .unset] [(.ref b1)])) _
    refine XS.dup X52.here hx rfl (hb hby at_115) rfl rfl ?_
    show Steps p.tables e below (T52.setTop (mkF m 116 #[.val (.long q0), .second, .val (.int p2), .val (.int p3), .unset, .unset, .unset, .unset, .unset, .unset] [(.ref b1), (.ref b1)])) _
    refine XS.bipush X52.here hx rfl (hb hby at_116) ?_
    show Steps p.tables e below (T52.setTop (mkF m 118 #[.val (.long q0), .second, .val (.int p2), .val (.int p3), .unset, .unset, .unset, .unset, .unset, .unset] [(.int (17 : Int32)), (.ref b1), (.ref b1)])) _
    refine X52.ldc2Long hx hown (mvT hZ (hw _ (List.mem_of_getElem? (i := 17) rfl))) (g := (mkF m 118 #[.val (.long q0), .second, .val (.int p2), .val (.int p3), .unset, .unset, .unset, .unset, .unset, .unset] [(.int (17 : Int32)), (.ref b1), (.ref b1)])) rfl (hb hby at_118) _ ?_
    show Steps p.tables e below (T52.setTop (mkF m 121 #[.val (.long q0), .second, .val (.int p2), .val (.int p3), .unset, .unset, .unset, .unset, .unset, .unset] [(.long (100000000000000000 : Int64)), (.int (17 : Int32)), (.ref b1), (.ref b1)])) _
    refine st55 _ ?_
    show Steps p.tables e below (T55.setTop (mkF m 122 #[.val (.long q0), .second, .val (.int p2), .val (.int p3), .unset, .unset, .unset, .unset, .unset, .unset] [(.ref b1)])) _
    refine XS.dup X55.here hx rfl (hb hby at_122) rfl rfl ?_
    show Steps p.tables e below (T55.setTop (mkF m 123 #[.val (.long q0), .second, .val (.int p2), .val (.int p3), .unset, .unset, .unset, .unset, .unset, .unset] [(.ref b1), (.ref b1)])) _
    refine XS.bipush X55.here hx rfl (hb hby at_123) ?_
    show Steps p.tables e below (T55.setTop (mkF m 125 #[.val (.long q0), .second, .val (.int p2), .val (.int p3), .unset, .unset, .unset, .unset, .unset, .unset] [(.int (18 : Int32)), (.ref b1), (.ref b1)])) _
    refine X55.ldc2Long hx hown (mvT hZ (hw _ (List.mem_of_getElem? (i := 18) rfl))) (g := (mkF m 125 #[.val (.long q0), .second, .val (.int p2), .val (.int p3), .unset, .unset, .unset, .unset, .unset, .unset] [(.int (18 : Int32)), (.ref b1), (.ref b1)])) rfl (hb hby at_125) _ ?_
    show Steps p.tables e below (T55.setTop (mkF m 128 #[.val (.long q0), .second, .val (.int p2), .val (.int p3), .unset, .unset, .unset, .unset, .unset, .unset] [(.long (1000000000000000000 : Int64)), (.int (18 : Int32)), (.ref b1), (.ref b1)])) _
    refine st58 _ ?_
    show Steps p.tables e below (T58.setTop (mkF m 129 #[.val (.long q0), .second, .val (.int p2), .val (.int p3), .unset, .unset, .unset, .unset, .unset, .unset] [(.ref b1)])) _
    refine XS.astore X58.here hx rfl (hb hby at_129) rfl rfl (l' := #[.val (.long q0), .second, .val (.int p2), .val (.int p3), .val (.ref b1), .unset, .unset, .unset, .unset, .unset]) rfl ?_
    show Steps p.tables e below (T58.setTop (mkF m 131 #[.val (.long q0), .second, .val (.int p2), .val (.int p3), .val (.ref b1), .unset, .unset, .unset, .unset, .unset] [])) _
    refine XS.iloadN X58.here hx rfl (hb hby at_131) rfl ?_
    show Steps p.tables e below (T58.setTop (mkF m 132 #[.val (.long q0), .second, .val (.int p2), .val (.int p3), .val (.ref b1), .unset, .unset, .unset, .unset, .unset] [(.int p3)])) _
    refine XS.iconst X58.here hx rfl (hb hby at_132) ?_
    show Steps p.tables e below (T58.setTop (mkF m 133 #[.val (.long q0), .second, .val (.int p2), .val (.int p3), .val (.ref b1), .unset, .unset, .unset, .unset, .unset] [(.int (1 : Int32)), (.int p3)])) _
    refine XS.iand X58.here hx rfl (hb hby at_133) rfl ?_
    exact k
  by_cases hc134_61 : (p3 &&& (1 : Int32)) = (0 : Int32)
  · obtain ⟨_, _, ⟨T62, L62, k62, n62⟩, -, X62, ⟨Lc62, hQ62, l62, y62, z62⟩, st62⟩ := Jvm.LawKit.callS X58 hx (y := (⟨"quorumkeep/base/Ascii", "digits", "(J)I"⟩ : MethodName)) hown (mvT hZ (hw _ (List.mem_of_getElem? (i := 26) rfl))) (mvT hZ (hw _ (List.mem_of_getElem? (i := 27) rfl))) (mvT hZ (hw _ (List.mem_of_getElem? (i := 28) rfl))) (mvT hZ (hw _ (List.mem_of_getElem? (i := 29) rfl))) (by decide) (backOf (W := 0) (rm2 l Z a0 hw [] (q0 &&& (9223372036854775807 : Int64)) h58 n0 Z59 ) hZ (hw _ (List.mem_of_getElem? (i := 29) rfl)) (hw _ (List.mem_of_getElem? (i := 28) rfl)) (by decide) (by decide)) (g := (mkF m 183 #[.val (.long q0), .second, .val (.int p2), .val (.int p3), .val (.ref b1), .val (.long (q0 &&& (9223372036854775807 : Int64))), .second, .unset, .unset, .unset] [(.long (q0 &&& (9223372036854775807 : Int64)))])) rfl (by rw [hml]; rfl) (argsL := [(.long (q0 &&& (9223372036854775807 : Int64)))]) (rest := []) (lenOf pd_0 rfl) rfl (by show 2 * 0 + _ ≤ _; exact Nat.le_of_eq rfl) (hb hby at_183) (fun _ _ => ⟨rfl, e58, (by decide : 1 + 0 ≤ _), (by decide : 19 + 0 ≤ _)⟩)
    dsimp only [Pt.U, Pt.locs, Pt.cells, Pt.slots] at X62 l62 y62 z62 st62 hQ62
    subst l62 y62 z62
    obtain ⟨r62, rfl, Nq62, hh62, hd62⟩ := hQ62
    have N62 := Fr.app N58 Nq62
    have e62 : T62.heap = h58 := hh62
    have pre63 : ∀ t, Steps p.tables e below (T62.setTop (mkF m 206 #[.val (.long q0), .second, .val (.int p2), .val (.int p3), .val (.ref b1), .val (.long (q0 &&& (9223372036854775807 : Int64))), .second, .val (.int r62), .unset, .unset] [(.int (1 : Int32)), (.int r62)])) t → Steps p.tables e below (s₁.setTop (entryFrame m #[(.long q0), (.int p2), (.int p3)] maxLocals)) t := fun t k => by
      refine pre60 t ?_
      show Steps p.tables e below (T58.setTop (mkF m 134 #[.val (.long q0), .second, .val (.int p2), .val (.int p3), .val (.ref b1), .unset, .unset, .unset, .unset, .unset] [(.int (p3 &&& (1 : Int32)))])) _
      refine XS.ifNo X58.here hx rfl (hb hby at_134) rfl ((if0 _ _).trans (teq hc134_61).2) ?_
      show Steps p.tables e below (T58.setTop (mkF m 137 #[.val (.long q0), .second, .val (.int p2), .val (.int p3), .val (.ref b1), .unset, .unset, .unset, .unset, .unset] [])) _
      refine XS.lloadN X58.here hx rfl (hb hby at_137) rfl ?_
      show Steps p.tables e below (T58.setTop (mkF m 138 #[.val (.long q0), .second, .val (.int p2), .val (.int p3), .val (.ref b1), .unset, .unset, .unset, .unset, .unset] [(.long q0)])) _
      refine X58.ldc2Long hx hown (mvT hZ (hw _ (List.mem_of_getElem? (i := 31) rfl))) (g := (mkF m 138 #[.val (.long q0), .second, .val (.int p2), .val (.int p3), .val (.ref b1), .unset, .unset, .unset, .unset, .unset] [(.long q0)])) rfl (hb hby at_138) _ ?_
      show Steps p.tables e below (T58.setTop (mkF m 141 #[.val (.long q0), .second, .val (.int p2), .val (.int p3), .val (.ref b1), .unset, .unset, .unset, .unset, .unset] [(.long (9223372036854775807 : Int64)), (.long q0)])) _
      refine XS.land X58.here hx rfl (hb hby at_141) rfl ?_
      show Steps p.tables e below (T58.setTop (mkF m 142 #[.val (.long q0), .second, .val (.int p2), .val (.int p3), .val (.ref b1), .unset, .unset, .unset, .unset, .unset] [(.long (q0 &&& (9223372036854775807 : Int64)))])) _
      refine XS.lstore X58.here hx rfl (hb hby at_142) rfl (l' := #[.val (.long q0), .second, .val (.int p2), .val (.int p3), .val (.ref b1), .val (.long (q0 &&& (9223372036854775807 : Int64))), .second, .unset, .unset, .unset]) rfl ?_
      show Steps p.tables e below (T58.setTop (mkF m 144 #[.val (.long q0), .second, .val (.int p2), .val (.int p3), .val (.ref b1), .val (.long (q0 &&& (9223372036854775807 : Int64))), .second, .unset, .unset, .unset] [])) _
      refine XS.goto X58.here hx rfl (pc0 := 144) (pc' := 181) rfl (hb hby at_144) (by decide) (by decide) ?_
      show Steps p.tables e below (T58.setTop (mkF m 181 #[.val (.long q0), .second, .val (.int p2), .val (.int p3), .val (.ref b1), .val (.long (q0 &&& (9223372036854775807 : Int64))), .second, .unset, .unset, .unset] [])) _
      refine XS.lload X58.here hx rfl (hb hby at_181) rfl ?_
      show Steps p.tables e below (T58.setTop (mkF m 183 #[.val (.long q0), .second, .val (.int p2), .val (.int p3), .val (.ref b1), .val (.long (q0 &&& (9223372036854775807 : Int64))), .second, .unset, .unset, .unset] [(.long (q0 &&& (9223372036854775807 : Int64)))])) _
      refine st62 _ ?_
      show Steps p.tables e below (T62.setTop (mkF m 186 #[.val (.long q0), .second, .val (.int p2), .val (.int p3), .val (.ref b1), .val (.long (q0 &&& (9223372036854775807 : Int64))), .second, .unset, .unset, .unset] [(.int r62)])) _
      refine XS.istore X62.here hx rfl (hb hby at_186) rfl (l' := #[.val (.long q0), .second, .val (.int p2), .val (.int p3), .val (.ref b1), .val (.long (q0 &&& (9223372036854775807 : Int64))), .second, .val (.int r62), .unset, .unset]) rfl ?_
      show Steps p.tables e below (T62.setTop (mkF m 188 #[.val (.long q0), .second, .val (.int p2), .val (.int p3), .val (.ref b1), .val (.long (q0 &&& (9223372036854775807 : Int64))), .second, .val (.int r62), .unset, .unset] [])) _
      refine XS.iload X62.here hx rfl (hb hby at_188) rfl ?_
      show Steps p.tables e below (T62.setTop (mkF m 190 #[.val (.long q0), .second, .val (.int p2), .val (.int p3), .val (.ref b1), .val (.long (q0 &&& (9223372036854775807 : Int64))), .second, .val (.int r62), .unset, .unset] [(.int r62)])) _
      refine XS.iconst X62.here hx rfl (hb hby at_190) ?_
      show Steps p.tables e below (T62.setTop (mkF m 191 #[.val (.long q0), .second, .val (.int p2), .val (.int p3), .val (.ref b1), .val (.long (q0 &&& (9223372036854775807 : Int64))), .second, .val (.int r62), .unset, .unset] [(.int (1 : Int32)), (.int r62)])) _
      refine XS.icmpNo X62.here hx rfl (hb hby at_191) rfl (flt (own_d1 hd62 : ¬ (r62 < (1 : Int32)))).1 ?_
      show Steps p.tables e below (T62.setTop (mkF m 194 #[.val (.long q0), .second, .val (.int p2), .val (.int p3), .val (.ref b1), .val (.long (q0 &&& (9223372036854775807 : Int64))), .second, .val (.int r62), .unset, .unset] [])) _
      refine XS.iload X62.here hx rfl (hb hby at_194) rfl ?_
      show Steps p.tables e below (T62.setTop (mkF m 196 #[.val (.long q0), .second, .val (.int p2), .val (.int p3), .val (.ref b1), .val (.long (q0 &&& (9223372036854775807 : Int64))), .second, .val (.int r62), .unset, .unset] [(.int r62)])) _
      refine XS.bipush X62.here hx rfl (hb hby at_196) ?_
      show Steps p.tables e below (T62.setTop (mkF m 198 #[.val (.long q0), .second, .val (.int p2), .val (.int p3), .val (.ref b1), .val (.long (q0 &&& (9223372036854775807 : Int64))), .second, .val (.int r62), .unset, .unset] [(.int (19 : Int32)), (.int r62)])) _
      refine XS.icmpYes X62.here hx rfl (pc0 := 198) (pc' := 203) rfl (hb hby at_198) rfl (flt (own_d19 hd62 : ¬ ((19 : Int32) < r62))).2.2.2 (by decide) (by decide) ?_
      show Steps p.tables e below (T62.setTop (mkF m 203 #[.val (.long q0), .second, .val (.int p2), .val (.int p3), .val (.ref b1), .val (.long (q0 &&& (9223372036854775807 : Int64))), .second, .val (.int r62), .unset, .unset] [])) _
      refine XS.iload X62.here hx rfl (hb hby at_203) rfl ?_
      show Steps p.tables e below (T62.setTop (mkF m 205 #[.val (.long q0), .second, .val (.int p2), .val (.int p3), .val (.ref b1), .val (.long (q0 &&& (9223372036854775807 : Int64))), .second, .val (.int r62), .unset, .unset] [(.int r62)])) _
      refine XS.iconst X62.here hx rfl (hb hby at_205) ?_
      exact k
    by_cases hc206_64 : r62 = (1 : Int32)
    · have pre65 : ∀ t, Steps p.tables e below (T62.setTop (mkF m 233 #[.val (.long q0), .second, .val (.int p2), .val (.int p3), .val (.ref b1), .val (.long (q0 &&& (9223372036854775807 : Int64))), .second, .val (.int r62), .val (.int (1 : Int32)), .unset] [(.int (19 : Int32)), (.int r62)])) t → Steps p.tables e below (s₁.setTop (entryFrame m #[(.long q0), (.int p2), (.int p3)] maxLocals)) t := fun t k => by
        refine pre63 t ?_
        show Steps p.tables e below (T62.setTop (mkF m 206 #[.val (.long q0), .second, .val (.int p2), .val (.int p3), .val (.ref b1), .val (.long (q0 &&& (9223372036854775807 : Int64))), .second, .val (.int r62), .unset, .unset] [(.int (1 : Int32)), (.int r62)])) _
        refine XS.icmpYes X62.here hx rfl (pc0 := 206) (pc' := 222) rfl (hb hby at_206) rfl (teq hc206_64).1 (by decide) (by decide) ?_
        show Steps p.tables e below (T62.setTop (mkF m 222 #[.val (.long q0), .second, .val (.int p2), .val (.int p3), .val (.ref b1), .val (.long (q0 &&& (9223372036854775807 : Int64))), .second, .val (.int r62), .unset, .unset] [])) _
        refine XS.iconst X62.here hx rfl (hb hby at_222) ?_
        show Steps p.tables e below (T62.setTop (mkF m 223 #[.val (.long q0), .second, .val (.int p2), .val (.int p3), .val (.ref b1), .val (.long (q0 &&& (9223372036854775807 : Int64))), .second, .val (.int r62), .unset, .unset] [(.int (1 : Int32))])) _
        refine XS.goto X62.here hx rfl (pc0 := 223) (pc' := 227) rfl (hb hby at_223) (by decide) (by decide) ?_
        show Steps p.tables e below (T62.setTop (mkF m 227 #[.val (.long q0), .second, .val (.int p2), .val (.int p3), .val (.ref b1), .val (.long (q0 &&& (9223372036854775807 : Int64))), .second, .val (.int r62), .unset, .unset] [(.int (1 : Int32))])) _
        refine XS.istore X62.here hx rfl (hb hby at_227) rfl (l' := #[.val (.long q0), .second, .val (.int p2), .val (.int p3), .val (.ref b1), .val (.long (q0 &&& (9223372036854775807 : Int64))), .second, .val (.int r62), .val (.int (1 : Int32)), .unset]) rfl ?_
        show Steps p.tables e below (T62.setTop (mkF m 229 #[.val (.long q0), .second, .val (.int p2), .val (.int p3), .val (.ref b1), .val (.long (q0 &&& (9223372036854775807 : Int64))), .second, .val (.int r62), .val (.int (1 : Int32)), .unset] [])) _
        refine XS.iload X62.here hx rfl (hb hby at_229) rfl ?_
        show Steps p.tables e below (T62.setTop (mkF m 231 #[.val (.long q0), .second, .val (.int p2), .val (.int p3), .val (.ref b1), .val (.long (q0 &&& (9223372036854775807 : Int64))), .second, .val (.int r62), .val (.int (1 : Int32)), .unset] [(.int r62)])) _
        refine XS.bipush X62.here hx rfl (hb hby at_231) ?_
        exact k
      by_cases hc233_66 : r62 = (19 : Int32)
      · have pre67 : ∀ t, Steps p.tables e below (T62.setTop (mkF m 269 #[.val (.long q0), .second, .val (.int p2), .val (.int p3), .val (.ref b1), .val (.long (q0 &&& (9223372036854775807 : Int64))), .second, .val (.int r62), .val (.int (1 : Int32)), .val (.int (1 : Int32))] [(.int (1 : Int32))])) t → Steps p.tables e below (s₁.setTop (entryFrame m #[(.long q0), (.int p2), (.int p3)] maxLocals)) t := fun t k => by
          refine pre65 t ?_
          show Steps p.tables e below (T62.setTop (mkF m 233 #[.val (.long q0), .second, .val (.int p2), .val (.int p3), .val (.ref b1), .val (.long (q0 &&& (9223372036854775807 : Int64))), .second, .val (.int r62), .val (.int (1 : Int32)), .unset] [(.int (19 : Int32)), (.int r62)])) _
          refine XS.icmpYes X62.here hx rfl (pc0 := 233) (pc' := 247) rfl (hb hby at_233) rfl (teq hc233_66).1 (by decide) (by decide) ?_
          show Steps p.tables e below (T62.setTop (mkF m 247 #[.val (.long q0), .second, .val (.int p2), .val (.int p3), .val (.ref b1), .val (.long (q0 &&& (9223372036854775807 : Int64))), .second, .val (.int r62), .val (.int (1 : Int32)), .unset] [])) _
          refine XS.iconst X62.here hx rfl (hb hby at_247) ?_
          show Steps p.tables e below (T62.setTop (mkF m 248 #[.val (.long q0), .second, .val (.int p2), .val (.int p3), .val (.ref b1), .val (.long (q0 &&& (9223372036854775807 : Int64))), .second, .val (.int r62), .val (.int (1 : Int32)), .unset] [(.int (1 : Int32))])) _
          refine XS.goto X62.here hx rfl (pc0 := 248) (pc' := 252) rfl (hb hby at_248) (by decide) (by decide) ?_
          show Steps p.tables e below (T62.setTop (mkF m 252 #[.val (.long q0), .second, .val (.int p2), .val (.int p3), .val (.ref b1), .val (.long (q0 &&& (9223372036854775807 : Int64))), .second, .val (.int r62), .val (.int (1 : Int32)), .unset] [(.int (1 : Int32))])) _
          refine XS.istore X62.here hx rfl (hb hby at_252) rfl (l' := #[.val (.long q0), .second, .val (.int p2), .val (.int p3), .val (.ref b1), .val (.long (q0 &&& (9223372036854775807 : Int64))), .second, .val (.int r62), .val (.int (1 : Int32)), .val (.int (1 : Int32))]) rfl ?_
          show Steps p.tables e below (T62.setTop (mkF m 254 #[.val (.long q0), .second, .val (.int p2), .val (.int p3), .val (.ref b1), .val (.long (q0 &&& (9223372036854775807 : Int64))), .second, .val (.int r62), .val (.int (1 : Int32)), .val (.int (1 : Int32))] [])) _
          refine XS.iload X62.here hx rfl (hb hby at_254) rfl ?_
          show Steps p.tables e below (T62.setTop (mkF m 256 #[.val (.long q0), .second, .val (.int p2), .val (.int p3), .val (.ref b1), .val (.long (q0 &&& (9223372036854775807 : Int64))), .second, .val (.int r62), .val (.int (1 : Int32)), .val (.int (1 : Int32))] [(.int (1 : Int32))])) _
          refine XS.ifNo X62.here hx rfl (hb hby at_256) rfl ((if0 _ _).trans (feq (by decide : ¬ ((1 : Int32) = (0 : Int32)))).1) ?_
          show Steps p.tables e below (T62.setTop (mkF m 259 #[.val (.long q0), .second, .val (.int p2), .val (.int p3), .val (.ref b1), .val (.long (q0 &&& (9223372036854775807 : Int64))), .second, .val (.int r62), .val (.int (1 : Int32)), .val (.int (1 : Int32))] [])) _
          refine XS.iload X62.here hx rfl (hb hby at_259) rfl ?_
          show Steps p.tables e below (T62.setTop (mkF m 261 #[.val (.long q0), .second, .val (.int p2), .val (.int p3), .val (.ref b1), .val (.long (q0 &&& (9223372036854775807 : Int64))), .second, .val (.int r62), .val (.int (1 : Int32)), .val (.int (1 : Int32))] [(.int (1 : Int32))])) _
          refine XS.ifNo X62.here hx rfl (hb hby at_261) rfl ((if0 _ _).trans (feq (by decide : ¬ ((1 : Int32) = (0 : Int32)))).1) ?_
          show Steps p.tables e below (T62.setTop (mkF m 264 #[.val (.long q0), .second, .val (.int p2), .val (.int p3), .val (.ref b1), .val (.long (q0 &&& (9223372036854775807 : Int64))), .second, .val (.int r62), .val (.int (1 : Int32)), .val (.int (1 : Int32))] [])) _
          refine XS.iconst X62.here hx rfl (hb hby at_264) ?_
          show Steps p.tables e below (T62.setTop (mkF m 265 #[.val (.long q0), .second, .val (.int p2), .val (.int p3), .val (.ref b1), .val (.long (q0 &&& (9223372036854775807 : Int64))), .second, .val (.int r62), .val (.int (1 : Int32)), .val (.int (1 : Int32))] [(.int (1 : Int32))])) _
          refine XS.goto X62.here hx rfl (pc0 := 265) (pc' := 269) rfl (hb hby at_265) (by decide) (by decide) ?_
          exact k
        obtain ⟨fs, hrq, hrun, hended, hW, hsame⟩ := X62.leave (v := some (.int (1 : Int32))) (fun h => by rw [Bd.returns] at h; cases h)
        refine ⟨_, _, pre67 _ ?_, hrun, hended, _, _, rfl, ?_, ⟨_, rfl⟩, hW, hsame.mono (by decide) (by decide)⟩
        · show Steps p.tables e below (T62.setTop (mkF m 269 #[.val (.long q0), .second, .val (.int p2), .val (.int p3), .val (.ref b1), .val (.long (q0 &&& (9223372036854775807 : Int64))), .second, .val (.int r62), .val (.int (1 : Int32)), .val (.int (1 : Int32))] [(.int (1 : Int32))])) _
          exact retN X62 hx (t := .boolean) Bd.returns (by simp) (hb hby at_269) hrq
        · show Q0 Z q0 p2 p3 h0 n0 _ T62.heap _
          rw [e62]
          exact ⟨rfl, N62⟩
      · obtain ⟨cl68, Ar68, -, Sz68, Nz68, Hs68, Gs68⟩ := id V58
        have hin68 : ¬ (r62 < 0 ∨ cl68.slots.size ≤ (r62).toNatClampNeg) := inb_of Sz68 (own_in2 hd62 hc233_66)
        have hat68 : cl68.slots[(r62).toNatClampNeg]? = some (.long (own_p r62)) := Hs68.at hin68 (own_at _)
        have pre69 : ∀ t, Steps p.tables e below (T62.setTop (mkF m 269 #[.val (.long q0), .second, .val (.int p2), .val (.int p3), .val (.ref b1), .val (.long (q0 &&& (9223372036854775807 : Int64))), .second, .val (.int r62), .val (.int (1 : Int32)), .val (.int (1 : Int32))] [(.int (1 : Int32))])) t → Steps p.tables e below (s₁.setTop (entryFrame m #[(.long q0), (.int p2), (.int p3)] maxLocals)) t := fun t k => by
          refine pre65 t ?_
          show Steps p.tables e below (T62.setTop (mkF m 233 #[.val (.long q0), .second, .val (.int p2), .val (.int p3), .val (.ref b1), .val (.long (q0 &&& (9223372036854775807 : Int64))), .second, .val (.int r62), .val (.int (1 : Int32)), .unset] [(.int (19 : Int32)), (.int r62)])) _
          refine XS.icmpNo X62.here hx rfl (hb hby at_233) rfl (feq hc233_66).1 ?_
          show Steps p.tables e below (T62.setTop (mkF m 236 #[.val (.long q0), .second, .val (.int p2), .val (.int p3), .val (.ref b1), .val (.long (q0 &&& (9223372036854775807 : Int64))), .second, .val (.int r62), .val (.int (1 : Int32)), .unset] [])) _
          refine XS.lload X62.here hx rfl (hb hby at_236) rfl ?_
          show Steps p.tables e below (T62.setTop (mkF m 238 #[.val (.long q0), .second, .val (.int p2), .val (.int p3), .val (.ref b1), .val (.long (q0 &&& (9223372036854775807 : Int64))), .second, .val (.int r62), .val (.int (1 : Int32)), .unset] [(.long (q0 &&& (9223372036854775807 : Int64)))])) _
          refine XS.aload X62.here hx rfl (hb hby at_238) rfl rfl ?_
          show Steps p.tables e below (T62.setTop (mkF m 240 #[.val (.long q0), .second, .val (.int p2), .val (.int p3), .val (.ref b1), .val (.long (q0 &&& (9223372036854775807 : Int64))), .second, .val (.int r62), .val (.int (1 : Int32)), .unset] [(.ref b1), (.long (q0 &&& (9223372036854775807 : Int64)))])) _
          refine XS.iload X62.here hx rfl (hb hby at_240) rfl ?_
          show Steps p.tables e below (T62.setTop (mkF m 242 #[.val (.long q0), .second, .val (.int p2), .val (.int p3), .val (.ref b1), .val (.long (q0 &&& (9223372036854775807 : Int64))), .second, .val (.int r62), .val (.int (1 : Int32)), .unset] [(.int r62), (.ref b1), (.long (q0 &&& (9223372036854775807 : Int64)))])) _
          refine X62.laload hx (j := r62) (v := (.long (own_p r62))) (by rw [e62]; exact Ar68.1) (State.isArrayOf_alike hZ.alike Ar68.2.1) Ar68.2.2 hin68 hat68 (g := (mkF m 242 #[.val (.long q0), .second, .val (.int p2), .val (.int p3), .val (.ref b1), .val (.long (q0 &&& (9223372036854775807 : Int64))), .second, .val (.int r62), .val (.int (1 : Int32)), .unset] [(.int r62), (.ref b1), (.long (q0 &&& (9223372036854775807 : Int64)))])) rfl rfl (hb hby at_242) _ ?_
          show Steps p.tables e below (T62.setTop (mkF m 243 #[.val (.long q0), .second, .val (.int p2), .val (.int p3), .val (.ref b1), .val (.long (q0 &&& (9223372036854775807 : Int64))), .second, .val (.int r62), .val (.int (1 : Int32)), .unset] [(.long (own_p r62)), (.long (q0 &&& (9223372036854775807 : Int64)))])) _
          refine XS.lcmp X62.here hx rfl (hb hby at_243) rfl ?_
          show Steps p.tables e below (T62.setTop (mkF m 244 #[.val (.long q0), .second, .val (.int p2), .val (.int p3), .val (.ref b1), .val (.long (q0 &&& (9223372036854775807 : Int64))), .second, .val (.int r62), .val (.int (1 : Int32)), .unset] [(.int (lcmpW (q0 &&& (9223372036854775807 : Int64)) (own_p r62)))])) _
          refine XS.ifNo X62.here hx rfl (hb hby at_244) rfl ((if0 _ _).trans (tlt (own_high hd62 hc233_66 : (lcmpW (q0 &&& (9223372036854775807 : Int64)) (own_p r62)) < (0 : Int32))).2.1) ?_
          show Steps p.tables e below (T62.setTop (mkF m 247 #[.val (.long q0), .second, .val (.int p2), .val (.int p3), .val (.ref b1), .val (.long (q0 &&& (9223372036854775807 : Int64))), .second, .val (.int r62), .val (.int (1 : Int32)), .unset] [])) _
          refine XS.iconst X62.here hx rfl (hb hby at_247) ?_
          show Steps p.tables e below (T62.setTop (mkF m 248 #[.val (.long q0), .second, .val (.int p2), .val (.int p3), .val (.ref b1), .val (.long (q0 &&& (9223372036854775807 : Int64))), .second, .val (.int r62), .val (.int (1 : Int32)), .unset] [(.int (1 : Int32))])) _
          refine XS.goto X62.here hx rfl (pc0 := 248) (pc' := 252) rfl (hb hby at_248) (by decide) (by decide) ?_
          show Steps p.tables e below (T62.setTop (mkF m 252 #[.val (.long q0), .second, .val (.int p2), .val (.int p3), .val (.ref b1), .val (.long (q0 &&& (9223372036854775807 : Int64))), .second, .val (.int r62), .val (.int (1 : Int32)), .unset] [(.int (1 : Int32))])) _
          refine XS.istore X62.here hx rfl (hb hby at_252) rfl (l' := #[.val (.long q0), .second, .val (.int p2), .val (.int p3), .val (.ref b1), .val (.long (q0 &&& (9223372036854775807 : Int64))), .second, .val (.int r62), .val (.int (1 : Int32)), .val (.int (1 : Int32))]) rfl ?_
          show Steps p.tables e below (T62.setTop (mkF m 254 #[.val (.long q0), .second, .val (.int p2), .val (.int p3), .val (.ref b1), .val (.long (q0 &&& (9223372036854775807 : Int64))), .second, .val (.int r62), .val (.int (1 : Int32)), .val (.int (1 : Int32))] [])) _
          refine XS.iload X62.here hx rfl (hb hby at_254) rfl ?_
          show Steps p.tables e below (T62.setTop (mkF m 256 #[.val (.long q0), .second, .val (.int p2), .val (.int p3), .val (.ref b1), .val (.long (q0 &&& (9223372036854775807 : Int64))), .second, .val (.int r62), .val (.int (1 : Int32)), .val (.int (1 : Int32))] [(.int (1 : Int32))])) _
          refine XS.ifNo X62.here hx rfl (hb hby at_256) rfl ((if0 _ _).trans (feq (by decide : ¬ ((1 : Int32) = (0 : Int32)))).1) ?_
          show Steps p.tables e below (T62.setTop (mkF m 259 #[.val (.long q0), .second, .val (.int p2), .val (.int p3), .val (.ref b1), .val (.long (q0 &&& (9223372036854775807 : Int64))), .second, .val (.int r62), .val (.int (1 : Int32)), .val (.int (1 : Int32))] [])) _
          refine XS.iload X62.here hx rfl (hb hby at_259) rfl ?_
          show Steps p.tables e below (T62.setTop (mkF m 261 #[.val (.long q0), .second, .val (.int p2), .val (.int p3), .val (.ref b1), .val (.long (q0 &&& (9223372036854775807 : Int64))), .second, .val (.int r62), .val (.int (1 : Int32)), .val (.int (1 : Int32))] [(.int (1 : Int32))])) _
          refine XS.ifNo X62.here hx rfl (hb hby at_261) rfl ((if0 _ _).trans (feq (by decide : ¬ ((1 : Int32) = (0 : Int32)))).1) ?_
          show Steps p.tables e below (T62.setTop (mkF m 264 #[.val (.long q0), .second, .val (.int p2), .val (.int p3), .val (.ref b1), .val (.long (q0 &&& (9223372036854775807 : Int64))), .second, .val (.int r62), .val (.int (1 : Int32)), .val (.int (1 : Int32))] [])) _
          refine XS.iconst X62.here hx rfl (hb hby at_264) ?_
          show Steps p.tables e below (T62.setTop (mkF m 265 #[.val (.long q0), .second, .val (.int p2), .val (.int p3), .val (.ref b1), .val (.long (q0 &&& (9223372036854775807 : Int64))), .second, .val (.int r62), .val (.int (1 : Int32)), .val (.int (1 : Int32))] [(.int (1 : Int32))])) _
          refine XS.goto X62.here hx rfl (pc0 := 265) (pc' := 269) rfl (hb hby at_265) (by decide) (by decide) ?_
          exact k
        obtain ⟨fs, hrq, hrun, hended, hW, hsame⟩ := X62.leave (v := some (.int (1 : Int32))) (fun h => by rw [Bd.returns] at h; cases h)
        refine ⟨_, _, pre69 _ ?_, hrun, hended, _, _, rfl, ?_, ⟨_, rfl⟩, hW, hsame.mono (by decide) (by decide)⟩
        · show Steps p.tables e below (T62.setTop (mkF m 269 #[.val (.long q0), .second, .val (.int p2), .val (.int p3), .val (.ref b1), .val (.long (q0 &&& (9223372036854775807 : Int64))), .second, .val (.int r62), .val (.int (1 : Int32)), .val (.int (1 : Int32))] [(.int (1 : Int32))])) _
          exact retN X62 hx (t := .boolean) Bd.returns (by simp) (hb hby at_269) hrq
        · show Q0 Z q0 p2 p3 h0 n0 _ T62.heap _
          rw [e62]
          exact ⟨rfl, N62⟩
    · obtain ⟨cl70, Ar70, -, Sz70, Nz70, Hs70, Gs70⟩ := id V58
      have hin70 : ¬ ((r62 - (1 : Int32)) < 0 ∨ cl70.slots.size ≤ ((r62 - (1 : Int32))).toNatClampNeg) := inb_of Sz70 (own_in1 hd62 hc206_64)
      have hat70 : cl70.slots[((r62 - (1 : Int32))).toNatClampNeg]? = some (.long (own_p (r62 - (1 : Int32)))) := Hs70.at hin70 (own_at _)
      have pre71 : ∀ t, Steps p.tables e below (T62.setTop (mkF m 233 #[.val (.long q0), .second, .val (.int p2), .val (.int p3), .val (.ref b1), .val (.long (q0 &&& (9223372036854775807 : Int64))), .second, .val (.int r62), .val (.int (1 : Int32)), .unset] [(.int (19 : Int32)), (.int r62)])) t → Steps p.tables e below (s₁.setTop (entryFrame m #[(.long q0), (.int p2), (.int p3)] maxLocals)) t := fun t k => by
        refine pre63 t ?_
        show Steps p.tables e below (T62.setTop (mkF m 206 #[.val (.long q0), .second, .val (.int p2), .val (.int p3), .val (.ref b1), .val (.long (q0 &&& (9223372036854775807 : Int64))), .second, .val (.int r62), .unset, .unset] [(.int (1 : Int32)), (.int r62)])) _
        refine XS.icmpNo X62.here hx rfl (hb hby at_206) rfl (feq hc206_64).1 ?_
        show Steps p.tables e below (T62.setTop (mkF m 209 #[.val (.long q0), .second, .val (.int p2), .val (.int p3), .val (.ref b1), .val (.long (q0 &&& (9223372036854775807 : Int64))), .second, .val (.int r62), .unset, .unset] [])) _
        refine XS.lload X62.here hx rfl (hb hby at_209) rfl ?_
        show Steps p.tables e below (T62.setTop (mkF m 211 #[.val (.long q0), .second, .val (.int p2), .val (.int p3), .val (.ref b1), .val (.long (q0 &&& (9223372036854775807 : Int64))), .second, .val (.int r62), .unset, .unset] [(.long (q0 &&& (9223372036854775807 : Int64)))])) _
        refine XS.aload X62.here hx rfl (hb hby at_211) rfl rfl ?_
        show Steps p.tables e below (T62.setTop (mkF m 213 #[.val (.long q0), .second, .val (.int p2), .val (.int p3), .val (.ref b1), .val (.long (q0 &&& (9223372036854775807 : Int64))), .second, .val (.int r62), .unset, .unset] [(.ref b1), (.long (q0 &&& (9223372036854775807 : Int64)))])) _
        refine XS.iload X62.here hx rfl (hb hby at_213) rfl ?_
        show Steps p.tables e below (T62.setTop (mkF m 215 #[.val (.long q0), .second, .val (.int p2), .val (.int p3), .val (.ref b1), .val (.long (q0 &&& (9223372036854775807 : Int64))), .second, .val (.int r62), .unset, .unset] [(.int r62), (.ref b1), (.long (q0 &&& (9223372036854775807 : Int64)))])) _
        refine XS.iconst X62.here hx rfl (hb hby at_215) ?_
        show Steps p.tables e below (T62.setTop (mkF m 216 #[.val (.long q0), .second, .val (.int p2), .val (.int p3), .val (.ref b1), .val (.long (q0 &&& (9223372036854775807 : Int64))), .second, .val (.int r62), .unset, .unset] [(.int (1 : Int32)), (.int r62), (.ref b1), (.long (q0 &&& (9223372036854775807 : Int64)))])) _
        refine XS.isub X62.here hx rfl (hb hby at_216) rfl ?_
        show Steps p.tables e below (T62.setTop (mkF m 217 #[.val (.long q0), .second, .val (.int p2), .val (.int p3), .val (.ref b1), .val (.long (q0 &&& (9223372036854775807 : Int64))), .second, .val (.int r62), .unset, .unset] [(.int (r62 - (1 : Int32))), (.ref b1), (.long (q0 &&& (9223372036854775807 : Int64)))])) _
        refine X62.laload hx (j := (r62 - (1 : Int32))) (v := (.long (own_p (r62 - (1 : Int32))))) (by rw [e62]; exact Ar70.1) (State.isArrayOf_alike hZ.alike Ar70.2.1) Ar70.2.2 hin70 hat70 (g := (mkF m 217 #[.val (.long q0), .second, .val (.int p2), .val (.int p3), .val (.ref b1), .val (.long (q0 &&& (9223372036854775807 : Int64))), .second, .val (.int r62), .unset, .unset] [(.int (r62 - (1 : Int32))), (.ref b1), (.long (q0 &&& (9223372036854775807 : Int64)))])) rfl rfl (hb hby at_217) _ ?_
        show Steps p.tables e below (T62.setTop (mkF m 218 #[.val (.long q0), .second, .val (.int p2), .val (.int p3), .val (.ref b1), .val (.long (q0 &&& (9223372036854775807 : Int64))), .second, .val (.int r62), .unset, .unset] [(.long (own_p (r62 - (1 : Int32)))), (.long (q0 &&& (9223372036854775807 : Int64)))])) _
        refine XS.lcmp X62.here hx rfl (hb hby at_218) rfl ?_
        show Steps p.tables e below (T62.setTop (mkF m 219 #[.val (.long q0), .second, .val (.int p2), .val (.int p3), .val (.ref b1), .val (.long (q0 &&& (9223372036854775807 : Int64))), .second, .val (.int r62), .unset, .unset] [(.int (lcmpW (q0 &&& (9223372036854775807 : Int64)) (own_p (r62 - (1 : Int32)))))])) _
        refine XS.ifNo X62.here hx rfl (hb hby at_219) rfl ((if0 _ _).trans (flt (own_low hd62 hc206_64 : ¬ ((lcmpW (q0 &&& (9223372036854775807 : Int64)) (own_p (r62 - (1 : Int32)))) < (0 : Int32)))).1) ?_
        show Steps p.tables e below (T62.setTop (mkF m 222 #[.val (.long q0), .second, .val (.int p2), .val (.int p3), .val (.ref b1), .val (.long (q0 &&& (9223372036854775807 : Int64))), .second, .val (.int r62), .unset, .unset] [])) _
        refine XS.iconst X62.here hx rfl (hb hby at_222) ?_
        show Steps p.tables e below (T62.setTop (mkF m 223 #[.val (.long q0), .second, .val (.int p2), .val (.int p3), .val (.ref b1), .val (.long (q0 &&& (9223372036854775807 : Int64))), .second, .val (.int r62), .unset, .unset] [(.int (1 : Int32))])) _
        refine XS.goto X62.here hx rfl (pc0 := 223) (pc' := 227) rfl (hb hby at_223) (by decide) (by decide) ?_
        show Steps p.tables e below (T62.setTop (mkF m 227 #[.val (.long q0), .second, .val (.int p2), .val (.int p3), .val (.ref b1), .val (.long (q0 &&& (9223372036854775807 : Int64))), .second, .val (.int r62), .unset, .unset] [(.int (1 : Int32))])) _
        refine XS.istore X62.here hx rfl (hb hby at_227) rfl (l' := #[.val (.long q0), .second, .val (.int p2), .val (.int p3), .val (.ref b1), .val (.long (q0 &&& (9223372036854775807 : Int64))), .second, .val (.int r62), .val (.int (1 : Int32)), .unset]) rfl ?_
        show Steps p.tables e below (T62.setTop (mkF m 229 #[.val (.long q0), .second, .val (.int p2), .val (.int p3), .val (.ref b1), .val (.long (q0 &&& (9223372036854775807 : Int64))), .second, .val (.int r62), .val (.int (1 : Int32)), .unset] [])) _
        refine XS.iload X62.here hx rfl (hb hby at_229) rfl ?_
        show Steps p.tables e below (T62.setTop (mkF m 231 #[.val (.long q0), .second, .val (.int p2), .val (.int p3), .val (.ref b1), .val (.long (q0 &&& (9223372036854775807 : Int64))), .second, .val (.int r62), .val (.int (1 : Int32)), .unset] [(.int r62)])) _
        refine XS.bipush X62.here hx rfl (hb hby at_231) ?_
        exact k
      by_cases hc233_72 : r62 = (19 : Int32)
      · have pre73 : ∀ t, Steps p.tables e below (T62.setTop (mkF m 269 #[.val (.long q0), .second, .val (.int p2), .val (.int p3), .val (.ref b1), .val (.long (q0 &&& (9223372036854775807 : Int64))), .second, .val (.int r62), .val (.int (1 : Int32)), .val (.int (1 : Int32))] [(.int (1 : Int32))])) t → Steps p.tables e below (s₁.setTop (entryFrame m #[(.long q0), (.int p2), (.int p3)] maxLocals)) t := fun t k => by
          refine pre71 t ?_
          show Steps p.tables e below (T62.setTop (mkF m 233 #[.val (.long q0), .second, .val (.int p2), .val (.int p3), .val (.ref b1), .val (.long (q0 &&& (9223372036854775807 : Int64))), .second, .val (.int r62), .val (.int (1 : Int32)), .unset] [(.int (19 : Int32)), (.int r62)])) _
          refine XS.icmpYes X62.here hx rfl (pc0 := 233) (pc' := 247) rfl (hb hby at_233) rfl (teq hc233_72).1 (by decide) (by decide) ?_
          show Steps p.tables e below (T62.setTop (mkF m 247 #[.val (.long q0), .second, .val (.int p2), .val (.int p3), .val (.ref b1), .val (.long (q0 &&& (9223372036854775807 : Int64))), .second, .val (.int r62), .val (.int (1 : Int32)), .unset] [])) _
          refine XS.iconst X62.here hx rfl (hb hby at_247) ?_
          show Steps p.tables e below (T62.setTop (mkF m 248 #[.val (.long q0), .second, .val (.int p2), .val (.int p3), .val (.ref b1), .val (.long (q0 &&& (9223372036854775807 : Int64))), .second, .val (.int r62), .val (.int (1 : Int32)), .unset] [(.int (1 : Int32))])) _
          refine XS.goto X62.here hx rfl (pc0 := 248) (pc' := 252) rfl (hb hby at_248) (by decide) (by decide) ?_
          show Steps p.tables e below (T62.setTop (mkF m 252 #[.val (.long q0), .second, .val (.int p2), .val (.int p3), .val (.ref b1), .val (.long (q0 &&& (9223372036854775807 : Int64))), .second, .val (.int r62), .val (.int (1 : Int32)), .unset] [(.int (1 : Int32))])) _
          refine XS.istore X62.here hx rfl (hb hby at_252) rfl (l' := #[.val (.long q0), .second, .val (.int p2), .val (.int p3), .val (.ref b1), .val (.long (q0 &&& (9223372036854775807 : Int64))), .second, .val (.int r62), .val (.int (1 : Int32)), .val (.int (1 : Int32))]) rfl ?_
          show Steps p.tables e below (T62.setTop (mkF m 254 #[.val (.long q0), .second, .val (.int p2), .val (.int p3), .val (.ref b1), .val (.long (q0 &&& (9223372036854775807 : Int64))), .second, .val (.int r62), .val (.int (1 : Int32)), .val (.int (1 : Int32))] [])) _
          refine XS.iload X62.here hx rfl (hb hby at_254) rfl ?_
          show Steps p.tables e below (T62.setTop (mkF m 256 #[.val (.long q0), .second, .val (.int p2), .val (.int p3), .val (.ref b1), .val (.long (q0 &&& (9223372036854775807 : Int64))), .second, .val (.int r62), .val (.int (1 : Int32)), .val (.int (1 : Int32))] [(.int (1 : Int32))])) _
          refine XS.ifNo X62.here hx rfl (hb hby at_256) rfl ((if0 _ _).trans (feq (by decide : ¬ ((1 : Int32) = (0 : Int32)))).1) ?_
          show Steps p.tables e below (T62.setTop (mkF m 259 #[.val (.long q0), .second, .val (.int p2), .val (.int p3), .val (.ref b1), .val (.long (q0 &&& (9223372036854775807 : Int64))), .second, .val (.int r62), .val (.int (1 : Int32)), .val (.int (1 : Int32))] [])) _
          refine XS.iload X62.here hx rfl (hb hby at_259) rfl ?_
          show Steps p.tables e below (T62.setTop (mkF m 261 #[.val (.long q0), .second, .val (.int p2), .val (.int p3), .val (.ref b1), .val (.long (q0 &&& (9223372036854775807 : Int64))), .second, .val (.int r62), .val (.int (1 : Int32)), .val (.int (1 : Int32))] [(.int (1 : Int32))])) _
          refine XS.ifNo X62.here hx rfl (hb hby at_261) rfl ((if0 _ _).trans (feq (by decide : ¬ ((1 : Int32) = (0 : Int32)))).1) ?_
          show Steps p.tables e below (T62.setTop (mkF m 264 #[.val (.long q0), .second, .val (.int p2), .val (.int p3), .val (.ref b1), .val (.long (q0 &&& (9223372036854775807 : Int64))), .second, .val (.int r62), .val (.int (1 : Int32)), .val (.int (1 : Int32))] [])) _
          refine XS.iconst X62.here hx rfl (hb hby at_264) ?_
          show Steps p.tables e below (T62.setTop (mkF m 265 #[.val (.long q0), .second, .val (.int p2), .val (.int p3), .val (.ref b1), .val (.long (q0 &&& (9223372036854775807 : Int64))), .second, .val (.int r62), .val (.int (1 : Int32)), .val (.int (1 : Int32))] [(.int (1 : Int32))])) _
          refine XS.goto X62.here hx rfl (pc0 := 265) (pc' := 269) rfl (hb hby at_265) (by decide) (by decide) ?_
          exact k
        obtain ⟨fs, hrq, hrun, hended, hW, hsame⟩ := X62.leave (v := some (.int (1 : Int32))) (fun h => by rw [Bd.returns] at h; cases h)
        refine ⟨_, _, pre73 _ ?_, hrun, hended, _, _, rfl, ?_, ⟨_, rfl⟩, hW, hsame.mono (by decide) (by decide)⟩
        · show Steps p.tables e below (T62.setTop (mkF m 269 #[.val (.long q0), .second, .val (.int p2), .val (.int p3), .val (.ref b1), .val (.long (q0 &&& (9223372036854775807 : Int64))), .second, .val (.int r62), .val (.int (1 : Int32)), .val (.int (1 : Int32))] [(.int (1 : Int32))])) _
          exact retN X62 hx (t := .boolean) Bd.returns (by simp) (hb hby at_269) hrq
        · show Q0 Z q0 p2 p3 h0 n0 _ T62.heap _
          rw [e62]
          exact ⟨rfl, N62⟩
      · obtain ⟨cl74, Ar74, -, Sz74, Nz74, Hs74, Gs74⟩ := id V58
        have hin74 : ¬ (r62 < 0 ∨ cl74.slots.size ≤ (r62).toNatClampNeg) := inb_of Sz74 (own_in2 hd62 hc233_72)
        have hat74 : cl74.slots[(r62).toNatClampNeg]? = some (.long (own_p r62)) := Hs74.at hin74 (own_at _)
        have pre75 : ∀ t, Steps p.tables e below (T62.setTop (mkF m 269 #[.val (.long q0), .second, .val (.int p2), .val (.int p3), .val (.ref b1), .val (.long (q0 &&& (9223372036854775807 : Int64))), .second, .val (.int r62), .val (.int (1 : Int32)), .val (.int (1 : Int32))] [(.int (1 : Int32))])) t → Steps p.tables e below (s₁.setTop (entryFrame m #[(.long q0), (.int p2), (.int p3)] maxLocals)) t := fun t k => by
          refine pre71 t ?_
          show Steps p.tables e below (T62.setTop (mkF m 233 #[.val (.long q0), .second, .val (.int p2), .val (.int p3), .val (.ref b1), .val (.long (q0 &&& (9223372036854775807 : Int64))), .second, .val (.int r62), .val (.int (1 : Int32)), .unset] [(.int (19 : Int32)), (.int r62)])) _
          refine XS.icmpNo X62.here hx rfl (hb hby at_233) rfl (feq hc233_72).1 ?_
          show Steps p.tables e below (T62.setTop (mkF m 236 #[.val (.long q0), .second, .val (.int p2), .val (.int p3), .val (.ref b1), .val (.long (q0 &&& (9223372036854775807 : Int64))), .second, .val (.int r62), .val (.int (1 : Int32)), .unset] [])) _
          refine XS.lload X62.here hx rfl (hb hby at_236) rfl ?_
          show Steps p.tables e below (T62.setTop (mkF m 238 #[.val (.long q0), .second, .val (.int p2), .val (.int p3), .val (.ref b1), .val (.long (q0 &&& (9223372036854775807 : Int64))), .second, .val (.int r62), .val (.int (1 : Int32)), .unset] [(.long (q0 &&& (9223372036854775807 : Int64)))])) _
          refine XS.aload X62.here hx rfl (hb hby at_238) rfl rfl ?_
          show Steps p.tables e below (T62.setTop (mkF m 240 #[.val (.long q0), .second, .val (.int p2), .val (.int p3), .val (.ref b1), .val (.long (q0 &&& (9223372036854775807 : Int64))), .second, .val (.int r62), .val (.int (1 : Int32)), .unset] [(.ref b1), (.long (q0 &&& (9223372036854775807 : Int64)))])) _
          refine XS.iload X62.here hx rfl (hb hby at_240) rfl ?_
          show Steps p.tables e below (T62.setTop (mkF m 242 #[.val (.long q0), .second, .val (.int p2), .val (.int p3), .val (.ref b1), .val (.long (q0 &&& (9223372036854775807 : Int64))), .second, .val (.int r62), .val (.int (1 : Int32)), .unset] [(.int r62), (.ref b1), (.long (q0 &&& (9223372036854775807 : Int64)))])) _
          refine X62.laload hx (j := r62) (v := (.long (own_p r62))) (by rw [e62]; exact Ar74.1) (State.isArrayOf_alike hZ.alike Ar74.2.1) Ar74.2.2 hin74 hat74 (g := (mkF m 242 #[.val (.long q0), .second, .val (.int p2), .val (.int p3), .val (.ref b1), .val (.long (q0 &&& (9223372036854775807 : Int64))), .second, .val (.int r62), .val (.int (1 : Int32)), .unset] [(.int r62), (.ref b1), (.long (q0 &&& (9223372036854775807 : Int64)))])) rfl rfl (hb hby at_242) _ ?_
          show Steps p.tables e below (T62.setTop (mkF m 243 #[.val (.long q0), .second, .val (.int p2), .val (.int p3), .val (.ref b1), .val (.long (q0 &&& (9223372036854775807 : Int64))), .second, .val (.int r62), .val (.int (1 : Int32)), .unset] [(.long (own_p r62)), (.long (q0 &&& (9223372036854775807 : Int64)))])) _
          refine XS.lcmp X62.here hx rfl (hb hby at_243) rfl ?_
          show Steps p.tables e below (T62.setTop (mkF m 244 #[.val (.long q0), .second, .val (.int p2), .val (.int p3), .val (.ref b1), .val (.long (q0 &&& (9223372036854775807 : Int64))), .second, .val (.int r62), .val (.int (1 : Int32)), .unset] [(.int (lcmpW (q0 &&& (9223372036854775807 : Int64)) (own_p r62)))])) _
          refine XS.ifNo X62.here hx rfl (hb hby at_244) rfl ((if0 _ _).trans (tlt (own_high hd62 hc233_72 : (lcmpW (q0 &&& (9223372036854775807 : Int64)) (own_p r62)) < (0 : Int32))).2.1) ?_
          show Steps p.tables e below (T62.setTop (mkF m 247 #[.val (.long q0), .second, .val (.int p2), .val (.int p3), .val (.ref b1), .val (.long (q0 &&& (9223372036854775807 : Int64))), .second, .val (.int r62), .val (.int (1 : Int32)), .unset] [])) _
          refine XS.iconst X62.here hx rfl (hb hby at_247) ?_
          show Steps p.tables e below (T62.setTop (mkF m 248 #[.val (.long q0), .second, .val (.int p2), .val (.int p3), .val (.ref b1), .val (.long (q0 &&& (9223372036854775807 : Int64))), .second, .val (.int r62), .val (.int (1 : Int32)), .unset] [(.int (1 : Int32))])) _
          refine XS.goto X62.here hx rfl (pc0 := 248) (pc' := 252) rfl (hb hby at_248) (by decide) (by decide) ?_
          show Steps p.tables e below (T62.setTop (mkF m 252 #[.val (.long q0), .second, .val (.int p2), .val (.int p3), .val (.ref b1), .val (.long (q0 &&& (9223372036854775807 : Int64))), .second, .val (.int r62), .val (.int (1 : Int32)), .unset] [(.int (1 : Int32))])) _
          refine XS.istore X62.here hx rfl (hb hby at_252) rfl (l' := #[.val (.long q0), .second, .val (.int p2), .val (.int p3), .val (.ref b1), .val (.long (q0 &&& (9223372036854775807 : Int64))), .second, .val (.int r62), .val (.int (1 : Int32)), .val (.int (1 : Int32))]) rfl ?_
          show Steps p.tables e below (T62.setTop (mkF m 254 #[.val (.long q0), .second, .val (.int p2), .val (.int p3), .val (.ref b1), .val (.long (q0 &&& (9223372036854775807 : Int64))), .second, .val (.int r62), .val (.int (1 : Int32)), .val (.int (1 : Int32))] [])) _
          refine XS.iload X62.here hx rfl (hb hby at_254) rfl ?_
          show Steps p.tables e below (T62.setTop (mkF m 256 #[.val (.long q0), .second, .val (.int p2), .val (.int p3), .val (.ref b1), .val (.long (q0 &&& (9223372036854775807 : Int64))), .second, .val (.int r62), .val (.int (1 : Int32)), .val (.int (1 : Int32))] [(.int (1 : Int32))])) _
          refine XS.ifNo X62.here hx rfl (hb hby at_256) rfl ((if0 _ _).trans (feq (by decide : ¬ ((1 : Int32) = (0 : Int32)))).1) ?_
          show Steps p.tables e below (T62.setTop (mkF m 259 #[.val (.long q0), .second, .val (.int p2), .val (.int p3), .val (.ref b1), .val (.long (q0 &&& (9223372036854775807 : Int64))), .second, .val (.int r62), .val (.int (1 : Int32)), .val (.int (1 : Int32))] [])) _
          refine XS.iload X62.here hx rfl (hb hby at_259) rfl ?_
          show Steps p.tables e below (T62.setTop (mkF m 261 #[.val (.long q0), .second, .val (.int p2), .val (.int p3), .val (.ref b1), .val (.long (q0 &&& (9223372036854775807 : Int64))), .second, .val (.int r62), .val (.int (1 : Int32)), .val (.int (1 : Int32))] [(.int (1 : Int32))])) _
          refine XS.ifNo X62.here hx rfl (hb hby at_261) rfl ((if0 _ _).trans (feq (by decide : ¬ ((1 : Int32) = (0 : Int32)))).1) ?_
          show Steps p.tables e below (T62.setTop (mkF m 264 #[.val (.long q0), .second, .val (.int p2), .val (.int p3), .val (.ref b1), .val (.long (q0 &&& (9223372036854775807 : Int64))), .second, .val (.int r62), .val (.int (1 : Int32)), .val (.int (1 : Int32))] [])) _
          refine XS.iconst X62.here hx rfl (hb hby at_264) ?_
          show Steps p.tables e below (T62.setTop (mkF m 265 #[.val (.long q0), .second, .val (.int p2), .val (.int p3), .val (.ref b1), .val (.long (q0 &&& (9223372036854775807 : Int64))), .second, .val (.int r62), .val (.int (1 : Int32)), .val (.int (1 : Int32))] [(.int (1 : Int32))])) _
          refine XS.goto X62.here hx rfl (pc0 := 265) (pc' := 269) rfl (hb hby at_265) (by decide) (by decide) ?_
          exact k
        obtain ⟨fs, hrq, hrun, hended, hW, hsame⟩ := X62.leave (v := some (.int (1 : Int32))) (fun h => by rw [Bd.returns] at h; cases h)
        refine ⟨_, _, pre75 _ ?_, hrun, hended, _, _, rfl, ?_, ⟨_, rfl⟩, hW, hsame.mono (by decide) (by decide)⟩
        · show Steps p.tables e below (T62.setTop (mkF m 269 #[.val (.long q0), .second, .val (.int p2), .val (.int p3), .val (.ref b1), .val (.long (q0 &&& (9223372036854775807 : Int64))), .second, .val (.int r62), .val (.int (1 : Int32)), .val (.int (1 : Int32))] [(.int (1 : Int32))])) _
          exact retN X62 hx (t := .boolean) Bd.returns (by simp) (hb hby at_269) hrq
        · show Q0 Z q0 p2 p3 h0 n0 _ T62.heap _
          rw [e62]
          exact ⟨rfl, N62⟩
  · obtain ⟨cl76, Ar76, -, Sz76, Nz76, Hs76, Gs76⟩ := id V58
    have hin76 : ¬ (((p2 &&& (2147483647 : Int32)) % (19 : Int32)) < 0 ∨ cl76.slots.size ≤ (((p2 &&& (2147483647 : Int32)) % (19 : Int32))).toNatClampNeg) := inb_of Sz76 (own_i19 p2)
    have hat76 : cl76.slots[(((p2 &&& (2147483647 : Int32)) % (19 : Int32))).toNatClampNeg]? = some (.long (own_p ((p2 &&& (2147483647 : Int32)) % (19 : Int32)))) := Hs76.at hin76 (own_at _)
    obtain ⟨_, _, ⟨T77, L77, k77, n77⟩, -, X77, ⟨Lc77, hQ77, l77, y77, z77⟩, st77⟩ := Jvm.LawKit.callS X58 hx (y := (⟨"java/lang/Math", "max", "(JJ)J"⟩ : MethodName)) hown (mvT hZ (hw _ (List.mem_of_getElem? (i := 22) rfl))) (mvT hZ (hw _ (List.mem_of_getElem? (i := 23) rfl))) (mvT hZ (hw _ (List.mem_of_getElem? (i := 24) rfl))) (mvT hZ (hw _ (List.mem_of_getElem? (i := 25) rfl))) (by decide) (backOf (W := 0) (rm1 l Z a0 hw [] (0 : Int64) ((own_p ((p2 &&& (2147483647 : Int32)) % (19 : Int32))) + ((q0 &&& (7 : Int64)) - (4 : Int64))) h58 n0 Z59 ) hZ (hw _ (List.mem_of_getElem? (i := 25) rfl)) (hw _ (List.mem_of_getElem? (i := 24) rfl)) (by decide) (by decide)) (g := (mkF m 176 #[.val (.long q0), .second, .val (.int p2), .val (.int p3), .val (.ref b1), .unset, .unset, .val (.int ((p2 &&& (2147483647 : Int32)) % (19 : Int32))), .val (.long ((q0 &&& (7 : Int64)) - (4 : Int64))), .second] [(.long ((own_p ((p2 &&& (2147483647 : Int32)) % (19 : Int32))) + ((q0 &&& (7 : Int64)) - (4 : Int64)))), (.long (0 : Int64))])) rfl (by rw [hml]; rfl) (argsL := [(.long (0 : Int64)), (.long ((own_p ((p2 &&& (2147483647 : Int32)) % (19 : Int32))) + ((q0 &&& (7 : Int64)) - (4 : Int64))))]) (rest := []) (lenOf pd_1 rfl) rfl (by show 2 * 0 + _ ≤ _; exact Nat.le_of_eq rfl) (hb hby at_176) (fun _ _ => ⟨rfl, e58, (by decide : 1 + 0 ≤ _), (by decide : 19 + 0 ≤ _)⟩)
    dsimp only [Pt.U, Pt.locs, Pt.cells, Pt.slots] at X77 l77 y77 z77 st77 hQ77
    subst l77 y77 z77
    obtain ⟨⟨r77, rfl⟩, Nq77, hh77⟩ := hQ77
    have N77 := Fr.app N58 Nq77
    have e77 : T77.heap = h58 := hh77
    obtain ⟨_, _, ⟨T78, L78, k78, n78⟩, -, X78, ⟨Lc78, hQ78, l78, y78, z78⟩, st78⟩ := Jvm.LawKit.callS X77 hx (y := (⟨"quorumkeep/base/Ascii", "digits", "(J)I"⟩ : MethodName)) hown (mvT hZ (hw _ (List.mem_of_getElem? (i := 26) rfl))) (mvT hZ (hw _ (List.mem_of_getElem? (i := 27) rfl))) (mvT hZ (hw _ (List.mem_of_getElem? (i := 28) rfl))) (mvT hZ (hw _ (List.mem_of_getElem? (i := 29) rfl))) (by decide) (backOf (W := 0) (rm2 l Z a0 hw [] r77 h58 n0 Z59 ) hZ (hw _ (List.mem_of_getElem? (i := 29) rfl)) (hw _ (List.mem_of_getElem? (i := 28) rfl)) (by decide) (by decide)) (g := (mkF m 183 #[.val (.long q0), .second, .val (.int p2), .val (.int p3), .val (.ref b1), .val (.long r77), .second, .val (.int ((p2 &&& (2147483647 : Int32)) % (19 : Int32))), .val (.long ((q0 &&& (7 : Int64)) - (4 : Int64))), .second] [(.long r77)])) rfl (by rw [hml]; rfl) (argsL := [(.long r77)]) (rest := []) (lenOf pd_0 rfl) rfl (by show 2 * 0 + _ ≤ _; exact Nat.le_of_eq rfl) (hb hby at_183) (fun _ _ => ⟨rfl, e77, (by decide : 1 + 0 ≤ _), (by decide : 19 + 0 ≤ _)⟩)
    dsimp only [Pt.U, Pt.locs, Pt.cells, Pt.slots] at X78 l78 y78 z78 st78 hQ78
    subst l78 y78 z78
    obtain ⟨r78, rfl, Nq78, hh78, hd78⟩ := hQ78
    have N78 := Fr.app N77 Nq78
    have e78 : T78.heap = h58 := hh78
    have pre79 : ∀ t, Steps p.tables e below (T78.setTop (mkF m 206 #[.val (.long q0), .second, .val (.int p2), .val (.int p3), .val (.ref b1), .val (.long r77), .second, .val (.int r78), .val (.long ((q0 &&& (7 : Int64)) - (4 : Int64))), .second] [(.int (1 : Int32)), (.int r78)])) t → Steps p.tables e below (s₁.setTop (entryFrame m #[(.long q0), (.int p2), (.int p3)] maxLocals)) t := fun t k => by
      refine pre60 t ?_
      show Steps p.tables e below (T58.setTop (mkF m 134 #[.val (.long q0), .second, .val (.int p2), .val (.int p3), .val (.ref b1), .unset, .unset, .unset, .unset, .unset] [(.int (p3 &&& (1 : Int32)))])) _
      refine XS.ifYes X58.here hx rfl (pc0 := 134) (pc' := 147) rfl (hb hby at_134) rfl ((if0 _ _).trans (feq hc134_61).2) (by decide) (by decide) ?_
      show Steps p.tables e below (T58.setTop (mkF m 147 #[.val (.long q0), .second, .val (.int p2), .val (.int p3), .val (.ref b1), .unset, .unset, .unset, .unset, .unset] [])) _
      refine XS.iloadN X58.here hx rfl (hb hby at_147) rfl ?_
      show Steps p.tables e below (T58.setTop (mkF m 148 #[.val (.long q0), .second, .val (.int p2), .val (.int p3), .val (.ref b1), .unset, .unset, .unset, .unset, .unset] [(.int p2)])) _
      refine X58.ldcInt hx hown (mvT hZ (hw _ (List.mem_of_getElem? (i := 19) rfl))) (g := (mkF m 148 #[.val (.long q0), .second, .val (.int p2), .val (.int p3), .val (.ref b1), .unset, .unset, .unset, .unset, .unset] [(.int p2)])) rfl (hb hby at_148) _ ?_
      show Steps p.tables e below (T58.setTop (mkF m 150 #[.val (.long q0), .second, .val (.int p2), .val (.int p3), .val (.ref b1), .unset, .unset, .unset, .unset, .unset] [(.int (2147483647 : Int32)), (.int p2)])) _
      refine XS.iand X58.here hx rfl (hb hby at_150) rfl ?_
      show Steps p.tables e below (T58.setTop (mkF m 151 #[.val (.long q0), .second, .val (.int p2), .val (.int p3), .val (.ref b1), .unset, .unset, .unset, .unset, .unset] [(.int (p2 &&& (2147483647 : Int32)))])) _
      refine XS.bipush X58.here hx rfl (hb hby at_151) ?_
      show Steps p.tables e below (T58.setTop (mkF m 153 #[.val (.long q0), .second, .val (.int p2), .val (.int p3), .val (.ref b1), .unset, .unset, .unset, .unset, .unset] [(.int (19 : Int32)), (.int (p2 &&& (2147483647 : Int32)))])) _
      refine iremM X58 hx rfl (hb hby at_153) rfl (by decide) ?_
      show Steps p.tables e below (T58.setTop (mkF m 154 #[.val (.long q0), .second, .val (.int p2), .val (.int p3), .val (.ref b1), .unset, .unset, .unset, .unset, .unset] [(.int ((p2 &&& (2147483647 : Int32)) % (19 : Int32)))])) _
      refine XS.istore X58.here hx rfl (hb hby at_154) rfl (l' := #[.val (.long q0), .second, .val (.int p2), .val (.int p3), .val (.ref b1), .unset, .unset, .val (.int ((p2 &&& (2147483647 : Int32)) % (19 : Int32))), .unset, .unset]) rfl ?_
      show Steps p.tables e below (T58.setTop (mkF m 156 #[.val (.long q0), .second, .val (.int p2), .val (.int p3), .val (.ref b1), .unset, .unset, .val (.int ((p2 &&& (2147483647 : Int32)) % (19 : Int32))), .unset, .unset] [])) _
      refine XS.lloadN X58.here hx rfl (hb hby at_156) rfl ?_
      show Steps p.tables e below (T58.setTop (mkF m 157 #[.val (.long q0), .second, .val (.int p2), .val (.int p3), .val (.ref b1), .unset, .unset, .val (.int ((p2 &&& (2147483647 : Int32)) % (19 : Int32))), .unset, .unset] [(.long q0)])) _
      refine X58.ldc2Long hx hown (mvT hZ (hw _ (List.mem_of_getElem? (i := 20) rfl))) (g := (mkF m 157 #[.val (.long q0), .second, .val (.int p2), .val (.int p3), .val (.ref b1), .unset, .unset, .val (.int ((p2 &&& (2147483647 : Int32)) % (19 : Int32))), .unset, .unset] [(.long q0)])) rfl (hb hby at_157) _ ?_
      show Steps p.tables e below (T58.setTop (mkF m 160 #[.val (.long q0), .second, .val (.int p2), .val (.int p3), .val (.ref b1), .unset, .unset, .val (.int ((p2 &&& (2147483647 : Int32)) % (19 : Int32))), .unset, .unset] [(.long (7 : Int64)), (.long q0)])) _
      refine XS.land X58.here hx rfl (hb hby at_160) rfl ?_
      show Steps p.tables e below (T58.setTop (mkF m 161 #[.val (.long q0), .second, .val (.int p2), .val (.int p3), .val (.ref b1), .unset, .unset, .val (.int ((p2 &&& (2147483647 : Int32)) % (19 : Int32))), .unset, .unset] [(.long (q0 &&& (7 : Int64)))])) _
      refine X58.ldc2Long hx hown (mvT hZ (hw _ (List.mem_of_getElem? (i := 21) rfl))) (g := (mkF m 161 #[.val (.long q0), .second, .val (.int p2), .val (.int p3), .val (.ref b1), .unset, .unset, .val (.int ((p2 &&& (2147483647 : Int32)) % (19 : Int32))), .unset, .unset] [(.long (q0 &&& (7 : Int64)))])) rfl (hb hby at_161) _ ?_
      show Steps p.tables e below (T58.setTop (mkF m 164 #[.val (.long q0), .second, .val (.int p2), .val (.int p3), .val (.ref b1), .unset, .unset, .val (.int ((p2 &&& (2147483647 : Int32)) % (19 : Int32))), .unset, .unset] [(.long (4 : Int64)), (.long (q0 &&& (7 : Int64)))])) _
      refine XS.lsub X58.here hx rfl (hb hby at_164) rfl ?_
      show Steps p.tables e below (T58.setTop (mkF m 165 #[.val (.long q0), .second, .val (.int p2), .val (.int p3), .val (.ref b1), .unset, .unset, .val (.int ((p2 &&& (2147483647 : Int32)) % (19 : Int32))), .unset, .unset] [(.long ((q0 &&& (7 : Int64)) - (4 : Int64)))])) _
      refine XS.lstore X58.here hx rfl (hb hby at_165) rfl (l' := #[.val (.long q0), .second, .val (.int p2), .val (.int p3), .val (.ref b1), .unset, .unset, .val (.int ((p2 &&& (2147483647 : Int32)) % (19 : Int32))), .val (.long ((q0 &&& (7 : Int64)) - (4 : Int64))), .second]) rfl ?_
      show Steps p.tables e below (T58.setTop (mkF m 167 #[.val (.long q0), .second, .val (.int p2), .val (.int p3), .val (.ref b1), .unset, .unset, .val (.int ((p2 &&& (2147483647 : Int32)) % (19 : Int32))), .val (.long ((q0 &&& (7 : Int64)) - (4 : Int64))), .second] [])) _
      refine XS.lconst X58.here hx rfl (hb hby at_167) ?_
      show Steps p.tables e below (T58.setTop (mkF m 168 #[.val (.long q0), .second, .val (.int p2), .val (.int p3), .val (.ref b1), .unset, .unset, .val (.int ((p2 &&& (2147483647 : Int32)) % (19 : Int32))), .val (.long ((q0 &&& (7 : Int64)) - (4 : Int64))), .second] [(.long (0 : Int64))])) _
      refine XS.aload X58.here hx rfl (hb hby at_168) rfl rfl ?_
      show Steps p.tables e below (T58.setTop (mkF m 170 #[.val (.long q0), .second, .val (.int p2), .val (.int p3), .val (.ref b1), .unset, .unset, .val (.int ((p2 &&& (2147483647 : Int32)) % (19 : Int32))), .val (.long ((q0 &&& (7 : Int64)) - (4 : Int64))), .second] [(.ref b1), (.long (0 : Int64))])) _
      refine XS.iload X58.here hx rfl (hb hby at_170) rfl ?_
      show Steps p.tables e below (T58.setTop (mkF m 172 #[.val (.long q0), .second, .val (.int p2), .val (.int p3), .val (.ref b1), .unset, .unset, .val (.int ((p2 &&& (2147483647 : Int32)) % (19 : Int32))), .val (.long ((q0 &&& (7 : Int64)) - (4 : Int64))), .second] [(.int ((p2 &&& (2147483647 : Int32)) % (19 : Int32))), (.ref b1), (.long (0 : Int64))])) _
      refine X58.laload hx (j := ((p2 &&& (2147483647 : Int32)) % (19 : Int32))) (v := (.long (own_p ((p2 &&& (2147483647 : Int32)) % (19 : Int32))))) (by rw [e58]; exact Ar76.1) (State.isArrayOf_alike hZ.alike Ar76.2.1) Ar76.2.2 hin76 hat76 (g := (mkF m 172 #[.val (.long q0), .second, .val (.int p2), .val (.int p3), .val (.ref b1), .unset, .unset, .val (.int ((p2 &&& (2147483647 : Int32)) % (19 : Int32))), .val (.long ((q0 &&& (7 : Int64)) - (4 : Int64))), .second] [(.int ((p2 &&& (2147483647 : Int32)) % (19 : Int32))), (.ref b1), (.long (0 : Int64))])) rfl rfl (hb hby at_172) _ ?_
      show Steps p.tables e below (T58.setTop (mkF m 173 #[.val (.long q0), .second, .val (.int p2), .val (.int p3), .val (.ref b1), .unset, .unset, .val (.int ((p2 &&& (2147483647 : Int32)) % (19 : Int32))), .val (.long ((q0 &&& (7 : Int64)) - (4 : Int64))), .second] [(.long (own_p ((p2 &&& (2147483647 : Int32)) % (19 : Int32)))), (.long (0 : Int64))])) _
      refine XS.lload X58.here hx rfl (hb hby at_173) rfl ?_
      show Steps p.tables e below (T58.setTop (mkF m 175 #[.val (.long q0), .second, .val (.int p2), .val (.int p3), .val (.ref b1), .unset, .unset, .val (.int ((p2 &&& (2147483647 : Int32)) % (19 : Int32))), .val (.long ((q0 &&& (7 : Int64)) - (4 : Int64))), .second] [(.long ((q0 &&& (7 : Int64)) - (4 : Int64))), (.long (own_p ((p2 &&& (2147483647 : Int32)) % (19 : Int32)))), (.long (0 : Int64))])) _
      refine XS.ladd X58.here hx rfl (hb hby at_175) rfl ?_
      show Steps p.tables e below (T58.setTop (mkF m 176 #[.val (.long q0), .second, .val (.int p2), .val (.int p3), .val (.ref b1), .unset, .unset, .val (.int ((p2 &&& (2147483647 : Int32)) % (19 : Int32))), .val (.long ((q0 &&& (7 : Int64)) - (4 : Int64))), .second] [(.long ((own_p ((p2 &&& (2147483647 : Int32)) % (19 : Int32))) + ((q0 &&& (7 : Int64)) - (4 : Int64)))), (.long (0 : Int64))])) _
      refine st77 _ ?_
      show Steps p.tables e below (T77.setTop (mkF m 179 #[.val (.long q0), .second, .val (.int p2), .val (.int p3), .val (.ref b1), .unset, .unset, .val (.int ((p2 &&& (2147483647 : Int32)) % (19 : Int32))), .val (.long ((q0 &&& (7 : Int64)) - (4 : Int64))), .second] [(.long r77)])) _
      refine XS.lstore X77.here hx rfl (hb hby at_179) rfl (l' := #[.val (.long q0), .second, .val (.int p2), .val (.int p3), .val (.ref b1), .val (.long r77), .second, .val (.int ((p2 &&& (2147483647 : Int32)) % (19 : Int32))), .val (.long ((q0 &&& (7 : Int64)) - (4 : Int64))), .second]) rfl ?_
      show Steps p.tables e below (T77.setTop (mkF m 181 #[.val (.long q0), .second, .val (.int p2), .val (.int p3), .val (.ref b1), .val (.long r77), .second, .val (.int ((p2 &&& (2147483647 : Int32)) % (19 : Int32))), .val (.long ((q0 &&& (7 : Int64)) - (4 : Int64))), .second] [])) _
      refine XS.lload X77.here hx rfl (hb hby at_181) rfl ?_
      show Steps p.tables e below (T77.setTop (mkF m 183 #[.val (.long q0), .second, .val (.int p2), .val (.int p3), .val (.ref b1), .val (.long r77), .second, .val (.int ((p2 &&& (2147483647 : Int32)) % (19 : Int32))), .val (.long ((q0 &&& (7 : Int64)) - (4 : Int64))), .second] [(.long r77)])) _
      refine st78 _ ?_
      show Steps p.tables e below (T78.setTop (mkF m 186 #[.val (.long q0), .second, .val (.int p2), .val (.int p3), .val (.ref b1), .val (.long r77), .second, .val (.int ((p2 &&& (2147483647 : Int32)) % (19 : Int32))), .val (.long ((q0 &&& (7 : Int64)) - (4 : Int64))), .second] [(.int r78)])) _
      refine XS.istore X78.here hx rfl (hb hby at_186) rfl (l' := #[.val (.long q0), .second, .val (.int p2), .val (.int p3), .val (.ref b1), .val (.long r77), .second, .val (.int r78), .val (.long ((q0 &&& (7 : Int64)) - (4 : Int64))), .second]) rfl ?_
      show Steps p.tables e below (T78.setTop (mkF m 188 #[.val (.long q0), .second, .val (.int p2), .val (.int p3), .val (.ref b1), .val (.long r77), .second, .val (.int r78), .val (.long ((q0 &&& (7 : Int64)) - (4 : Int64))), .second] [])) _
      refine XS.iload X78.here hx rfl (hb hby at_188) rfl ?_
      show Steps p.tables e below (T78.setTop (mkF m 190 #[.val (.long q0), .second, .val (.int p2), .val (.int p3), .val (.ref b1), .val (.long r77), .second, .val (.int r78), .val (.long ((q0 &&& (7 : Int64)) - (4 : Int64))), .second] [(.int r78)])) _
      refine XS.iconst X78.here hx rfl (hb hby at_190) ?_
      show Steps p.tables e below (T78.setTop (mkF m 191 #[.val (.long q0), .second, .val (.int p2), .val (.int p3), .val (.ref b1), .val (.long r77), .second, .val (.int r78), .val (.long ((q0 &&& (7 : Int64)) - (4 : Int64))), .second] [(.int (1 : Int32)), (.int r78)])) _
      refine XS.icmpNo X78.here hx rfl (hb hby at_191) rfl (flt (own_d1 hd78 : ¬ (r78 < (1 : Int32)))).1 ?_
      show Steps p.tables e below (T78.setTop (mkF m 194 #[.val (.long q0), .second, .val (.int p2), .val (.int p3), .val (.ref b1), .val (.long r77), .second, .val (.int r78), .val (.long ((q0 &&& (7 : Int64)) - (4 : Int64))), .second] [])) _
      refine XS.iload X78.here hx rfl (hb hby at_194) rfl ?_
      show Steps p.tables e below (T78.setTop (mkF m 196 #[.val (.long q0), .second, .val (.int p2), .val (.int p3), .val (.ref b1), .val (.long r77), .second, .val (.int r78), .val (.long ((q0 &&& (7 : Int64)) - (4 : Int64))), .second] [(.int r78)])) _
      refine XS.bipush X78.here hx rfl (hb hby at_196) ?_
      show Steps p.tables e below (T78.setTop (mkF m 198 #[.val (.long q0), .second, .val (.int p2), .val (.int p3), .val (.ref b1), .val (.long r77), .second, .val (.int r78), .val (.long ((q0 &&& (7 : Int64)) - (4 : Int64))), .second] [(.int (19 : Int32)), (.int r78)])) _
      refine XS.icmpYes X78.here hx rfl (pc0 := 198) (pc' := 203) rfl (hb hby at_198) rfl (flt (own_d19 hd78 : ¬ ((19 : Int32) < r78))).2.2.2 (by decide) (by decide) ?_
      show Steps p.tables e below (T78.setTop (mkF m 203 #[.val (.long q0), .second, .val (.int p2), .val (.int p3), .val (.ref b1), .val (.long r77), .second, .val (.int r78), .val (.long ((q0 &&& (7 : Int64)) - (4 : Int64))), .second] [])) _
      refine XS.iload X78.here hx rfl (hb hby at_203) rfl ?_
      show Steps p.tables e below (T78.setTop (mkF m 205 #[.val (.long q0), .second, .val (.int p2), .val (.int p3), .val (.ref b1), .val (.long r77), .second, .val (.int r78), .val (.long ((q0 &&& (7 : Int64)) - (4 : Int64))), .second] [(.int r78)])) _
      refine XS.iconst X78.here hx rfl (hb hby at_205) ?_
      exact k
    by_cases hc206_80 : r78 = (1 : Int32)
    · have pre81 : ∀ t, Steps p.tables e below (T78.setTop (mkF m 233 #[.val (.long q0), .second, .val (.int p2), .val (.int p3), .val (.ref b1), .val (.long r77), .second, .val (.int r78), .val (.int (1 : Int32)), .unset] [(.int (19 : Int32)), (.int r78)])) t → Steps p.tables e below (s₁.setTop (entryFrame m #[(.long q0), (.int p2), (.int p3)] maxLocals)) t := fun t k => by
        refine pre79 t ?_
        show Steps p.tables e below (T78.setTop (mkF m 206 #[.val (.long q0), .second, .val (.int p2), .val (.int p3), .val (.ref b1), .val (.long r77), .second, .val (.int r78), .val (.long ((q0 &&& (7 : Int64)) - (4 : Int64))), .second] [(.int (1 : Int32)), (.int r78)])) _
        refine XS.icmpYes X78.here hx rfl (pc0 := 206) (pc' := 222) rfl (hb hby at_206) rfl (teq hc206_80).1 (by decide) (by decide) ?_
        show Steps p.tables e below (T78.setTop (mkF m 222 #[.val (.long q0), .second, .val (.int p2), .val (.int p3), .val (.ref b1), .val (.long r77), .second, .val (.int r78), .val (.long ((q0 &&& (7 : Int64)) - (4 : Int64))), .second] [])) _
        refine XS.iconst X78.here hx rfl (hb hby at_222) ?_
        show Steps p.tables e below (T78.setTop (mkF m 223 #[.val (.long q0), .second, .val (.int p2), .val (.int p3), .val (.ref b1), .val (.long r77), .second, .val (.int r78), .val (.long ((q0 &&& (7 : Int64)) - (4 : Int64))), .second] [(.int (1 : Int32))])) _
        refine XS.goto X78.here hx rfl (pc0 := 223) (pc' := 227) rfl (hb hby at_223) (by decide) (by decide) ?_
        show Steps p.tables e below (T78.setTop (mkF m 227 #[.val (.long q0), .second, .val (.int p2), .val (.int p3), .val (.ref b1), .val (.long r77), .second, .val (.int r78), .val (.long ((q0 &&& (7 : Int64)) - (4 : Int64))), .second] [(.int (1 : Int32))])) _
        refine XS.istore X78.here hx rfl (hb hby at_227) rfl (l' := #[.val (.long q0), .second, .val (.int p2), .val (.int p3), .val (.ref b1), .val (.long r77), .second, .val (.int r78), .val (.int (1 : Int32)), .unset]) rfl ?_
        show Steps p.tables e below (T78.setTop (mkF m 229 #[.val (.long q0), .second, .val (.int p2), .val (.int p3), .val (.ref b1), .val (.long r77), .second, .val (.int r78), .val (.int (1 : Int32)), .unset] [])) _
        refine XS.iload X78.here hx rfl (hb hby at_229) rfl ?_
        show Steps p.tables e below (T78.setTop (mkF m 231 #[.val (.long q0), .second, .val (.int p2), .val (.int p3), .val (.ref b1), .val (.long r77), .second, .val (.int r78), .val (.int (1 : Int32)), .unset] [(.int r78)])) _
        refine XS.bipush X78.here hx rfl (hb hby at_231) ?_
        exact k
      by_cases hc233_82 : r78 = (19 : Int32)
      · have pre83 : ∀ t, Steps p.tables e below (T78.setTop (mkF m 269 #[.val (.long q0), .second, .val (.int p2), .val (.int p3), .val (.ref b1), .val (.long r77), .second, .val (.int r78), .val (.int (1 : Int32)), .val (.int (1 : Int32))] [(.int (1 : Int32))])) t → Steps p.tables e below (s₁.setTop (entryFrame m #[(.long q0), (.int p2), (.int p3)] maxLocals)) t := fun t k => by
          refine pre81 t ?_
          show Steps p.tables e below (T78.setTop (mkF m 233 #[.val (.long q0), .second, .val (.int p2), .val (.int p3), .val (.ref b1), .val (.long r77), .second, .val (.int r78), .val (.int (1 : Int32)), .unset] [(.int (19 : Int32)), (.int r78)])) _
          refine XS.icmpYes X78.here hx rfl (pc0 := 233) (pc' := 247) rfl (hb hby at_233) rfl (teq hc233_82).1 (by decide) (by decide) ?_
          show Steps p.tables e below (T78.setTop (mkF m 247 #[.val (.long q0), .second, .val (.int p2), .val (.int p3), .val (.ref b1), .val (.long r77), .second, .val (.int r78), .val (.int (1 : Int32)), .unset] [])) _
          refine XS.iconst X78.here hx rfl (hb hby at_247) ?_
          show Steps p.tables e below (T78.setTop (mkF m 248 #[.val (.long q0), .second, .val (.int p2), .val (.int p3), .val (.ref b1), .val (.long r77), .second, .val (.int r78), .val (.int (1 : Int32)), .unset] [(.int (1 : Int32))])) _
          refine XS.goto X78.here hx rfl (pc0 := 248) (pc' := 252) rfl (hb hby at_248) (by decide) (by decide) ?_
          show Steps p.tables e below (T78.setTop (mkF m 252 #[.val (.long q0), .second, .val (.int p2), .val (.int p3), .val (.ref b1), .val (.long r77), .second, .val (.int r78), .val (.int (1 : Int32)), .unset] [(.int (1 : Int32))])) _
          refine XS.istore X78.here hx rfl (hb hby at_252) rfl (l' := #[.val (.long q0), .second, .val (.int p2), .val (.int p3), .val (.ref b1), .val (.long r77), .second, .val (.int r78), .val (.int (1 : Int32)), .val (.int (1 : Int32))]) rfl ?_
          show Steps p.tables e below (T78.setTop (mkF m 254 #[.val (.long q0), .second, .val (.int p2), .val (.int p3), .val (.ref b1), .val (.long r77), .second, .val (.int r78), .val (.int (1 : Int32)), .val (.int (1 : Int32))] [])) _
          refine XS.iload X78.here hx rfl (hb hby at_254) rfl ?_
          show Steps p.tables e below (T78.setTop (mkF m 256 #[.val (.long q0), .second, .val (.int p2), .val (.int p3), .val (.ref b1), .val (.long r77), .second, .val (.int r78), .val (.int (1 : Int32)), .val (.int (1 : Int32))] [(.int (1 : Int32))])) _
          refine XS.ifNo X78.here hx rfl (hb hby at_256) rfl ((if0 _ _).trans (feq (by decide : ¬ ((1 : Int32) = (0 : Int32)))).1) ?_
          show Steps p.tables e below (T78.setTop (mkF m 259 #[.val (.long q0), .second, .val (.int p2), .val (.int p3), .val (.ref b1), .val (.long r77), .second, .val (.int r78), .val (.int (1 : Int32)), .val (.int (1 : Int32))] [])) _
          refine XS.iload X78.here hx rfl (hb hby at_259) rfl ?_
          show Steps p.tables e below (T78.setTop (mkF m 261 #[.val (.long q0), .second, .val (.int p2), .val (.int p3), .val (.ref b1), .val (.long r77), .second, .val (.int r78), .val (.int (1 : Int32)), .val (.int (1 : Int32))] [(.int (1 : Int32))])) _
          refine XS.ifNo X78.here hx rfl (hb hby at_261) rfl ((if0 _ _).trans (feq (by decide : ¬ ((1 : Int32) = (0 : Int32)))).1) ?_
          show Steps p.tables e below (T78.setTop (mkF m 264 #[.val (.long q0), .second, .val (.int p2), .val (.int p3), .val (.ref b1), .val (.long r77), .second, .val (.int r78), .val (.int (1 : Int32)), .val (.int (1 : Int32))] [])) _
          refine XS.iconst X78.here hx rfl (hb hby at_264) ?_
          show Steps p.tables e below (T78.setTop (mkF m 265 #[.val (.long q0), .second, .val (.int p2), .val (.int p3), .val (.ref b1), .val (.long r77), .second, .val (.int r78), .val (.int (1 : Int32)), .val (.int (1 : Int32))] [(.int (1 : Int32))])) _
          refine XS.goto X78.here hx rfl (pc0 := 265) (pc' := 269) rfl (hb hby at_265) (by decide) (by decide) ?_
          exact k
        obtain ⟨fs, hrq, hrun, hended, hW, hsame⟩ := X78.leave (v := some (.int (1 : Int32))) (fun h => by rw [Bd.returns] at h; cases h)
        refine ⟨_, _, pre83 _ ?_, hrun, hended, _, _, rfl, ?_, ⟨_, rfl⟩, hW, hsame.mono (by decide) (by decide)⟩
        · show Steps p.tables e below (T78.setTop (mkF m 269 #[.val (.long q0), .second, .val (.int p2), .val (.int p3), .val (.ref b1), .val (.long r77), .second, .val (.int r78), .val (.int (1 : Int32)), .val (.int (1 : Int32))] [(.int (1 : Int32))])) _
          exact retN X78 hx (t := .boolean) Bd.returns (by simp) (hb hby at_269) hrq
        · show Q0 Z q0 p2 p3 h0 n0 _ T78.heap _
          rw [e78]
          exact ⟨rfl, N78⟩
      · obtain ⟨cl84, Ar84, -, Sz84, Nz84, Hs84, Gs84⟩ := id V58
        have hin84 : ¬ (r78 < 0 ∨ cl84.slots.size ≤ (r78).toNatClampNeg) := inb_of Sz84 (own_in2 hd78 hc233_82)
        have hat84 : cl84.slots[(r78).toNatClampNeg]? = some (.long (own_p r78)) := Hs84.at hin84 (own_at _)
        have pre85 : ∀ t, Steps p.tables e below (T78.setTop (mkF m 269 #[.val (.long q0), .second, .val (.int p2), .val (.int p3), .val (.ref b1), .val (.long r77), .second, .val (.int r78), .val (.int (1 : Int32)), .val (.int (1 : Int32))] [(.int (1 : Int32))])) t → Steps p.tables e below (s₁.setTop (entryFrame m #[(.long q0), (.int p2), (.int p3)] maxLocals)) t := fun t k => by
          refine pre81 t ?_
          show Steps p.tables e below (T78.setTop (mkF m 233 #[.val (.long q0), .second, .val (.int p2), .val (.int p3), .val (.ref b1), .val (.long r77), .second, .val (.int r78), .val (.int (1 : Int32)), .unset] [(.int (19 : Int32)), (.int r78)])) _
          refine XS.icmpNo X78.here hx rfl (hb hby at_233) rfl (feq hc233_82).1 ?_
          show Steps p.tables e below (T78.setTop (mkF m 236 #[.val (.long q0), .second, .val (.int p2), .val (.int p3), .val (.ref b1), .val (.long r77), .second, .val (.int r78), .val (.int (1 : Int32)), .unset] [])) _
          refine XS.lload X78.here hx rfl (hb hby at_236) rfl ?_
          show Steps p.tables e below (T78.setTop (mkF m 238 #[.val (.long q0), .second, .val (.int p2), .val (.int p3), .val (.ref b1), .val (.long r77), .second, .val (.int r78), .val (.int (1 : Int32)), .unset] [(.long r77)])) _
          refine XS.aload X78.here hx rfl (hb hby at_238) rfl rfl ?_
          show Steps p.tables e below (T78.setTop (mkF m 240 #[.val (.long q0), .second, .val (.int p2), .val (.int p3), .val (.ref b1), .val (.long r77), .second, .val (.int r78), .val (.int (1 : Int32)), .unset] [(.ref b1), (.long r77)])) _
          refine XS.iload X78.here hx rfl (hb hby at_240) rfl ?_
          show Steps p.tables e below (T78.setTop (mkF m 242 #[.val (.long q0), .second, .val (.int p2), .val (.int p3), .val (.ref b1), .val (.long r77), .second, .val (.int r78), .val (.int (1 : Int32)), .unset] [(.int r78), (.ref b1), (.long r77)])) _
          refine X78.laload hx (j := r78) (v := (.long (own_p r78))) (by rw [e78]; exact Ar84.1) (State.isArrayOf_alike hZ.alike Ar84.2.1) Ar84.2.2 hin84 hat84 (g := (mkF m 242 #[.val (.long q0), .second, .val (.int p2), .val (.int p3), .val (.ref b1), .val (.long r77), .second, .val (.int r78), .val (.int (1 : Int32)), .unset] [(.int r78), (.ref b1), (.long r77)])) rfl rfl (hb hby at_242) _ ?_
          show Steps p.tables e below (T78.setTop (mkF m 243 #[.val (.long q0), .second, .val (.int p2), .val (.int p3), .val (.ref b1), .val (.long r77), .second, .val (.int r78), .val (.int (1 : Int32)), .unset] [(.long (own_p r78)), (.long r77)])) _
          refine XS.lcmp X78.here hx rfl (hb hby at_243) rfl ?_
          show Steps p.tables e below (T78.setTop (mkF m 244 #[.val (.long q0), .second, .val (.int p2), .val (.int p3), .val (.ref b1), .val (.long r77), .second, .val (.int r78), .val (.int (1 : Int32)), .unset] [(.int (lcmpW r77 (own_p r78)))])) _
          refine XS.ifNo X78.here hx rfl (hb hby at_244) rfl ((if0 _ _).trans (tlt (own_high hd78 hc233_82 : (lcmpW r77 (own_p r78)) < (0 : Int32))).2.1) ?_
          show Steps p.tables e below (T78.setTop (mkF m 247 #[.val (.long q0), .second, .val (.int p2), .val (.int p3), .val (.ref b1), .val (.long r77), .second, .val (.int r78), .val (.int (1 : Int32)), .unset] [])) _
          refine XS.iconst X78.here hx rfl (hb hby at_247) ?_
          show Steps p.tables e below (T78.setTop (mkF m 248 #[.val (.long q0), .second, .val (.int p2), .val (.int p3), .val (.ref b1), .val (.long r77), .second, .val (.int r78), .val (.int (1 : Int32)), .unset] [(.int (1 : Int32))])) _
          refine XS.goto X78.here hx rfl (pc0 := 248) (pc' := 252) rfl (hb hby at_248) (by decide) (by decide) ?_
          show Steps p.tables e below (T78.setTop (mkF m 252 #[.val (.long q0), .second, .val (.int p2), .val (.int p3), .val (.ref b1), .val (.long r77), .second, .val (.int r78), .val (.int (1 : Int32)), .unset] [(.int (1 : Int32))])) _
          refine XS.istore X78.here hx rfl (hb hby at_252) rfl (l' := #[.val (.long q0), .second, .val (.int p2), .val (.int p3), .val (.ref b1), .val (.long r77), .second, .val (.int r78), .val (.int (1 : Int32)), .val (.int (1 : Int32))]) rfl ?_
          show Steps p.tables e below (T78.setTop (mkF m 254 #[.val (.long q0), .second, .val (.int p2), .val (.int p3), .val (.ref b1), .val (.long r77), .second, .val (.int r78), .val (.int (1 : Int32)), .val (.int (1 : Int32))] [])) _
          refine XS.iload X78.here hx rfl (hb hby at_254) rfl ?_
          show Steps p.tables e below (T78.setTop (mkF m 256 #[.val (.long q0), .second, .val (.int p2), .val (.int p3), .val (.ref b1), .val (.long r77), .second, .val (.int r78), .val (.int (1 : Int32)), .val (.int (1 : Int32))] [(.int (1 : Int32))])) _
          refine XS.ifNo X78.here hx rfl (hb hby at_256) rfl ((if0 _ _).trans (feq (by decide : ¬ ((1 : Int32) = (0 : Int32)))).1) ?_
          show Steps p.tables e below (T78.setTop (mkF m 259 #[.val (.long q0), .second, .val (.int p2), .val (.int p3), .val (.ref b1), .val (.long r77), .second, .val (.int r78), .val (.int (1 : Int32)), .val (.int (1 : Int32))] [])) _
          refine XS.iload X78.here hx rfl (hb hby at_259) rfl ?_
          show Steps p.tables e below (T78.setTop (mkF m 261 #[.val (.long q0), .second, .val (.int p2), .val (.int p3), .val (.ref b1), .val (.long r77), .second, .val (.int r78), .val (.int (1 : Int32)), .val (.int (1 : Int32))] [(.int (1 : Int32))])) _
          refine XS.ifNo X78.here hx rfl (hb hby at_261) rfl ((if0 _ _).trans (feq (by decide : ¬ ((1 : Int32) = (0 : Int32)))).1) ?_
          show Steps p.tables e below (T78.setTop (mkF m 264 #[.val (.long q0), .second, .val (.int p2), .val (.int p3), .val (.ref b1), .val (.long r77), .second, .val (.int r78), .val (.int (1 : Int32)), .val (.int (1 : Int32))] [])) _
          refine XS.iconst X78.here hx rfl (hb hby at_264) ?_
          show Steps p.tables e below (T78.setTop (mkF m 265 #[.val (.long q0), .second, .val (.int p2), .val (.int p3), .val (.ref b1), .val (.long r77), .second, .val (.int r78), .val (.int (1 : Int32)), .val (.int (1 : Int32))] [(.int (1 : Int32))])) _
          refine XS.goto X78.here hx rfl (pc0 := 265) (pc' := 269) rfl (hb hby at_265) (by decide) (by decide) ?_
          exact k
        obtain ⟨fs, hrq, hrun, hended, hW, hsame⟩ := X78.leave (v := some (.int (1 : Int32))) (fun h => by rw [Bd.returns] at h; cases h)
        refine ⟨_, _, pre85 _ ?_, hrun, hended, _, _, rfl, ?_, ⟨_, rfl⟩, hW, hsame.mono (by decide) (by decide)⟩
        · show Steps p.tables e below (T78.setTop (mkF m 269 #[.val (.long q0), .second, .val (.int p2), .val (.int p3), .val (.ref b1), .val (.long r77), .second, .val (.int r78), .val (.int (1 : Int32)), .val (.int (1 : Int32))] [(.int (1 : Int32))])) _
          exact retN X78 hx (t := .boolean) Bd.returns (by simp) (hb hby at_269) hrq
        · show Q0 Z q0 p2 p3 h0 n0 _ T78.heap _
          rw [e78]
          exact ⟨rfl, N78⟩
    · obtain ⟨cl86, Ar86, -, Sz86, Nz86, Hs86, Gs86⟩ := id V58
      have hin86 : ¬ ((r78 - (1 : Int32)) < 0 ∨ cl86.slots.size ≤ ((r78 - (1 : Int32))).toNatClampNeg) := inb_of Sz86 (own_in1 hd78 hc206_80)
      have hat86 : cl86.slots[((r78 - (1 : Int32))).toNatClampNeg]? = some (.long (own_p (r78 - (1 : Int32)))) := Hs86.at hin86 (own_at _)
      have pre87 : ∀ t, Steps p.tables e below (T78.setTop (mkF m 233 #[.val (.long q0), .second, .val (.int p2), .val (.int p3), .val (.ref b1), .val (.long r77), .second, .val (.int r78), .val (.int (1 : Int32)), .unset] [(.int (19 : Int32)), (.int r78)])) t → Steps p.tables e below (s₁.setTop (entryFrame m #[(.long q0), (.int p2), (.int p3)] maxLocals)) t := fun t k => by
        refine pre79 t ?_
        show Steps p.tables e below (T78.setTop (mkF m 206 #[.val (.long q0), .second, .val (.int p2), .val (.int p3), .val (.ref b1), .val (.long r77), .second, .val (.int r78), .val (.long ((q0 &&& (7 : Int64)) - (4 : Int64))), .second] [(.int (1 : Int32)), (.int r78)])) _
        refine XS.icmpNo X78.here hx rfl (hb hby at_206) rfl (feq hc206_80).1 ?_
        show Steps p.tables e below (T78.setTop (mkF m 209 #[.val (.long q0), .second, .val (.int p2), .val (.int p3), .val (.ref b1), .val (.long r77), .second, .val (.int r78), .val (.long ((q0 &&& (7 : Int64)) - (4 : Int64))), .second] [])) _
        refine XS.lload X78.here hx rfl (hb hby at_209) rfl ?_
        show Steps p.tables e below (T78.setTop (mkF m 211 #[.val (.long q0), .second, .val (.int p2), .val (.int p3), .val (.ref b1), .val (.long r77), .second, .val (.int r78), .val (.long ((q0 &&& (7 : Int64)) - (4 : Int64))), .second] [(.long r77)])) _
        refine XS.aload X78.here hx rfl (hb hby at_211) rfl rfl ?_
        show Steps p.tables e below (T78.setTop (mkF m 213 #[.val (.long q0), .second, .val (.int p2), .val (.int p3), .val (.ref b1), .val (.long r77), .second, .val (.int r78), .val (.long ((q0 &&& (7 : Int64)) - (4 : Int64))), .second] [(.ref b1), (.long r77)])) _
        refine XS.iload X78.here hx rfl (hb hby at_213) rfl ?_
        show Steps p.tables e below (T78.setTop (mkF m 215 #[.val (.long q0), .second, .val (.int p2), .val (.int p3), .val (.ref b1), .val (.long r77), .second, .val (.int r78), .val (.long ((q0 &&& (7 : Int64)) - (4 : Int64))), .second] [(.int r78), (.ref b1), (.long r77)])) _
        refine XS.iconst X78.here hx rfl (hb hby at_215) ?_
        show Steps p.tables e below (T78.setTop (mkF m 216 #[.val (.long q0), .second, .val (.int p2), .val (.int p3), .val (.ref b1), .val (.long r77), .second, .val (.int r78), .val (.long ((q0 &&& (7 : Int64)) - (4 : Int64))), .second] [(.int (1 : Int32)), (.int r78), (.ref b1), (.long r77)])) _
        refine XS.isub X78.here hx rfl (hb hby at_216) rfl ?_
        show Steps p.tables e below (T78.setTop (mkF m 217 #[.val (.long q0), .second, .val (.int p2), .val (.int p3), .val (.ref b1), .val (.long r77), .second, .val (.int r78), .val (.long ((q0 &&& (7 : Int64)) - (4 : Int64))), .second] [(.int (r78 - (1 : Int32))), (.ref b1), (.long r77)])) _
        refine X78.laload hx (j := (r78 - (1 : Int32))) (v := (.long (own_p (r78 - (1 : Int32))))) (by rw [e78]; exact Ar86.1) (State.isArrayOf_alike hZ.alike Ar86.2.1) Ar86.2.2 hin86 hat86 (g := (mkF m 217 #[.val (.long q0), .second, .val (.int p2), .val (.int p3), .val (.ref b1), .val (.long r77), .second, .val (.int r78), .val (.long ((q0 &&& (7 : Int64)) - (4 : Int64))), .second] [(.int (r78 - (1 : Int32))), (.ref b1), (.long r77)])) rfl rfl (hb hby at_217) _ ?_
        show Steps p.tables e below (T78.setTop (mkF m 218 #[.val (.long q0), .second, .val (.int p2), .val (.int p3), .val (.ref b1), .val (.long r77), .second, .val (.int r78), .val (.long ((q0 &&& (7 : Int64)) - (4 : Int64))), .second] [(.long (own_p (r78 - (1 : Int32)))), (.long r77)])) _
        refine XS.lcmp X78.here hx rfl (hb hby at_218) rfl ?_
        show Steps p.tables e below (T78.setTop (mkF m 219 #[.val (.long q0), .second, .val (.int p2), .val (.int p3), .val (.ref b1), .val (.long r77), .second, .val (.int r78), .val (.long ((q0 &&& (7 : Int64)) - (4 : Int64))), .second] [(.int (lcmpW r77 (own_p (r78 - (1 : Int32)))))])) _
        refine XS.ifNo X78.here hx rfl (hb hby at_219) rfl ((if0 _ _).trans (flt (own_low hd78 hc206_80 : ¬ ((lcmpW r77 (own_p (r78 - (1 : Int32)))) < (0 : Int32)))).1) ?_
        show Steps p.tables e below (T78.setTop (mkF m 222 #[.val (.long q0), .second, .val (.int p2), .val (.int p3), .val (.ref b1), .val (.long r77), .second, .val (.int r78), .val (.long ((q0 &&& (7 : Int64)) - (4 : Int64))), .second] [])) _
        refine XS.iconst X78.here hx rfl (hb hby at_222) ?_
        show Steps p.tables e below (T78.setTop (mkF m 223 #[.val (.long q0), .second, .val (.int p2), .val (.int p3), .val (.ref b1), .val (.long r77), .second, .val (.int r78), .val (.long ((q0 &&& (7 : Int64)) - (4 : Int64))), .second] [(.int (1 : Int32))])) _
        refine XS.goto X78.here hx rfl (pc0 := 223) (pc' := 227) rfl (hb hby at_223) (by decide) (by decide) ?_
        show Steps p.tables e below (T78.setTop (mkF m 227 #[.val (.long q0), .second, .val (.int p2), .val (.int p3), .val (.ref b1), .val (.long r77), .second, .val (.int r78), .val (.long ((q0 &&& (7 : Int64)) - (4 : Int64))), .second] [(.int (1 : Int32))])) _
        refine XS.istore X78.here hx rfl (hb hby at_227) rfl (l' := #[.val (.long q0), .second, .val (.int p2), .val (.int p3), .val (.ref b1), .val (.long r77), .second, .val (.int r78), .val (.int (1 : Int32)), .unset]) rfl ?_
        show Steps p.tables e below (T78.setTop (mkF m 229 #[.val (.long q0), .second, .val (.int p2), .val (.int p3), .val (.ref b1), .val (.long r77), .second, .val (.int r78), .val (.int (1 : Int32)), .unset] [])) _
        refine XS.iload X78.here hx rfl (hb hby at_229) rfl ?_
        show Steps p.tables e below (T78.setTop (mkF m 231 #[.val (.long q0), .second, .val (.int p2), .val (.int p3), .val (.ref b1), .val (.long r77), .second, .val (.int r78), .val (.int (1 : Int32)), .unset] [(.int r78)])) _
        refine XS.bipush X78.here hx rfl (hb hby at_231) ?_
        exact k
      by_cases hc233_88 : r78 = (19 : Int32)
      · have pre89 : ∀ t, Steps p.tables e below (T78.setTop (mkF m 269 #[.val (.long q0), .second, .val (.int p2), .val (.int p3), .val (.ref b1), .val (.long r77), .second, .val (.int r78), .val (.int (1 : Int32)), .val (.int (1 : Int32))] [(.int (1 : Int32))])) t → Steps p.tables e below (s₁.setTop (entryFrame m #[(.long q0), (.int p2), (.int p3)] maxLocals)) t := fun t k => by
          refine pre87 t ?_
          show Steps p.tables e below (T78.setTop (mkF m 233 #[.val (.long q0), .second, .val (.int p2), .val (.int p3), .val (.ref b1), .val (.long r77), .second, .val (.int r78), .val (.int (1 : Int32)), .unset] [(.int (19 : Int32)), (.int r78)])) _
          refine XS.icmpYes X78.here hx rfl (pc0 := 233) (pc' := 247) rfl (hb hby at_233) rfl (teq hc233_88).1 (by decide) (by decide) ?_
          show Steps p.tables e below (T78.setTop (mkF m 247 #[.val (.long q0), .second, .val (.int p2), .val (.int p3), .val (.ref b1), .val (.long r77), .second, .val (.int r78), .val (.int (1 : Int32)), .unset] [])) _
          refine XS.iconst X78.here hx rfl (hb hby at_247) ?_
          show Steps p.tables e below (T78.setTop (mkF m 248 #[.val (.long q0), .second, .val (.int p2), .val (.int p3), .val (.ref b1), .val (.long r77), .second, .val (.int r78), .val (.int (1 : Int32)), .unset] [(.int (1 : Int32))])) _
          refine XS.goto X78.here hx rfl (pc0 := 248) (pc' := 252) rfl (hb hby at_248) (by decide) (by decide) ?_
          show Steps p.tables e below (T78.setTop (mkF m 252 #[.val (.long q0), .second, .val (.int p2), .val (.int p3), .val (.ref b1), .val (.long r77), .second, .val (.int r78), .val (.int (1 : Int32)), .unset] [(.int (1 : Int32))])) _
          refine XS.istore X78.here hx rfl (hb hby at_252) rfl (l' := #[.val (.long q0), .second, .val (.int p2), .val (.int p3), .val (.ref b1), .val (.long r77), .second, .val (.int r78), .val (.int (1 : Int32)), .val (.int (1 : Int32))]) rfl ?_
          show Steps p.tables e below (T78.setTop (mkF m 254 #[.val (.long q0), .second, .val (.int p2), .val (.int p3), .val (.ref b1), .val (.long r77), .second, .val (.int r78), .val (.int (1 : Int32)), .val (.int (1 : Int32))] [])) _
          refine XS.iload X78.here hx rfl (hb hby at_254) rfl ?_
          show Steps p.tables e below (T78.setTop (mkF m 256 #[.val (.long q0), .second, .val (.int p2), .val (.int p3), .val (.ref b1), .val (.long r77), .second, .val (.int r78), .val (.int (1 : Int32)), .val (.int (1 : Int32))] [(.int (1 : Int32))])) _
          refine XS.ifNo X78.here hx rfl (hb hby at_256) rfl ((if0 _ _).trans (feq (by decide : ¬ ((1 : Int32) = (0 : Int32)))).1) ?_
          show Steps p.tables e below (T78.setTop (mkF m 259 #[.val (.long q0), .second, .val (.int p2), .val (.int p3), .val (.ref b1), .val (.long r77), .second, .val (.int r78), .val (.int (1 : Int32)), .val (.int (1 : Int32))] [])) _
          refine XS.iload X78.here hx rfl (hb hby at_259) rfl ?_
          show Steps p.tables e below (T78.setTop (mkF m 261 #[.val (.long q0), .second, .val (.int p2), .val (.int p3), .val (.ref b1), .val (.long r77), .second, .val (.int r78), .val (.int (1 : Int32)), .val (.int (1 : Int32))] [(.int (1 : Int32))])) _
          refine XS.ifNo X78.here hx rfl (hb hby at_261) rfl ((if0 _ _).trans (feq (by decide : ¬ ((1 : Int32) = (0 : Int32)))).1) ?_
          show Steps p.tables e below (T78.setTop (mkF m 264 #[.val (.long q0), .second, .val (.int p2), .val (.int p3), .val (.ref b1), .val (.long r77), .second, .val (.int r78), .val (.int (1 : Int32)), .val (.int (1 : Int32))] [])) _
          refine XS.iconst X78.here hx rfl (hb hby at_264) ?_
          show Steps p.tables e below (T78.setTop (mkF m 265 #[.val (.long q0), .second, .val (.int p2), .val (.int p3), .val (.ref b1), .val (.long r77), .second, .val (.int r78), .val (.int (1 : Int32)), .val (.int (1 : Int32))] [(.int (1 : Int32))])) _
          refine XS.goto X78.here hx rfl (pc0 := 265) (pc' := 269) rfl (hb hby at_265) (by decide) (by decide) ?_
          exact k
        obtain ⟨fs, hrq, hrun, hended, hW, hsame⟩ := X78.leave (v := some (.int (1 : Int32))) (fun h => by rw [Bd.returns] at h; cases h)
        refine ⟨_, _, pre89 _ ?_, hrun, hended, _, _, rfl, ?_, ⟨_, rfl⟩, hW, hsame.mono (by decide) (by decide)⟩
        · show Steps p.tables e below (T78.setTop (mkF m 269 #[.val (.long q0), .second, .val (.int p2), .val (.int p3), .val (.ref b1), .val (.long r77), .second, .val (.int r78), .val (.int (1 : Int32)), .val (.int (1 : Int32))] [(.int (1 : Int32))])) _
          exact retN X78 hx (t := .boolean) Bd.returns (by simp) (hb hby at_269) hrq
        · show Q0 Z q0 p2 p3 h0 n0 _ T78.heap _
          rw [e78]
          exact ⟨rfl, N78⟩
      · obtain ⟨cl90, Ar90, -, Sz90, Nz90, Hs90, Gs90⟩ := id V58
        have hin90 : ¬ (r78 < 0 ∨ cl90.slots.size ≤ (r78).toNatClampNeg) := inb_of Sz90 (own_in2 hd78 hc233_88)
        have hat90 : cl90.slots[(r78).toNatClampNeg]? = some (.long (own_p r78)) := Hs90.at hin90 (own_at _)
        have pre91 : ∀ t, Steps p.tables e below (T78.setTop (mkF m 269 #[.val (.long q0), .second, .val (.int p2), .val (.int p3), .val (.ref b1), .val (.long r77), .second, .val (.int r78), .val (.int (1 : Int32)), .val (.int (1 : Int32))] [(.int (1 : Int32))])) t → Steps p.tables e below (s₁.setTop (entryFrame m #[(.long q0), (.int p2), (.int p3)] maxLocals)) t := fun t k => by
          refine pre87 t ?_
          show Steps p.tables e below (T78.setTop (mkF m 233 #[.val (.long q0), .second, .val (.int p2), .val (.int p3), .val (.ref b1), .val (.long r77), .second, .val (.int r78), .val (.int (1 : Int32)), .unset] [(.int (19 : Int32)), (.int r78)])) _
          refine XS.icmpNo X78.here hx rfl (hb hby at_233) rfl (feq hc233_88).1 ?_
          show Steps p.tables e below (T78.setTop (mkF m 236 #[.val (.long q0), .second, .val (.int p2), .val (.int p3), .val (.ref b1), .val (.long r77), .second, .val (.int r78), .val (.int (1 : Int32)), .unset] [])) _
          refine XS.lload X78.here hx rfl (hb hby at_236) rfl ?_
          show Steps p.tables e below (T78.setTop (mkF m 238 #[.val (.long q0), .second, .val (.int p2), .val (.int p3), .val (.ref b1), .val (.long r77), .second, .val (.int r78), .val (.int (1 : Int32)), .unset] [(.long r77)])) _
          refine XS.aload X78.here hx rfl (hb hby at_238) rfl rfl ?_
          show Steps p.tables e below (T78.setTop (mkF m 240 #[.val (.long q0), .second, .val (.int p2), .val (.int p3), .val (.ref b1), .val (.long r77), .second, .val (.int r78), .val (.int (1 : Int32)), .unset] [(.ref b1), (.long r77)])) _
          refine XS.iload X78.here hx rfl (hb hby at_240) rfl ?_
          show Steps p.tables e below (T78.setTop (mkF m 242 #[.val (.long q0), .second, .val (.int p2), .val (.int p3), .val (.ref b1), .val (.long r77), .second, .val (.int r78), .val (.int (1 : Int32)), .unset] [(.int r78), (.ref b1), (.long r77)])) _
          refine X78.laload hx (j := r78) (v := (.long (own_p r78))) (by rw [e78]; exact Ar90.1) (State.isArrayOf_alike hZ.alike Ar90.2.1) Ar90.2.2 hin90 hat90 (g := (mkF m 242 #[.val (.long q0), .second, .val (.int p2), .val (.int p3), .val (.ref b1), .val (.long r77), .second, .val (.int r78), .val (.int (1 : Int32)), .unset] [(.int r78), (.ref b1), (.long r77)])) rfl rfl (hb hby at_242) _ ?_
          show Steps p.tables e below (T78.setTop (mkF m 243 #[.val (.long q0), .second, .val (.int p2), .val (.int p3), .val (.ref b1), .val (.long r77), .second, .val (.int r78), .val (.int (1 : Int32)), .unset] [(.long (own_p r78)), (.long r77)])) _
          refine XS.lcmp X78.here hx rfl (hb hby at_243) rfl ?_
          show Steps p.tables e below (T78.setTop (mkF m 244 #[.val (.long q0), .second, .val (.int p2), .val (.int p3), .val (.ref b1), .val (.long r77), .second, .val (.int r78), .val (.int (1 : Int32)), .unset] [(.int (lcmpW r77 (own_p r78)))])) _
          refine XS.ifNo X78.here hx rfl (hb hby at_244) rfl ((if0 _ _).trans (tlt (own_high hd78 hc233_88 : (lcmpW r77 (own_p r78)) < (0 : Int32))).2.1) ?_
          show Steps p.tables e below (T78.setTop (mkF m 247 #[.val (.long q0), .second, .val (.int p2), .val (.int p3), .val (.ref b1), .val (.long r77), .second, .val (.int r78), .val (.int (1 : Int32)), .unset] [])) _
          refine XS.iconst X78.here hx rfl (hb hby at_247) ?_
          show Steps p.tables e below (T78.setTop (mkF m 248 #[.val (.long q0), .second, .val (.int p2), .val (.int p3), .val (.ref b1), .val (.long r77), .second, .val (.int r78), .val (.int (1 : Int32)), .unset] [(.int (1 : Int32))])) _
          refine XS.goto X78.here hx rfl (pc0 := 248) (pc' := 252) rfl (hb hby at_248) (by decide) (by decide) ?_
          show Steps p.tables e below (T78.setTop (mkF m 252 #[.val (.long q0), .second, .val (.int p2), .val (.int p3), .val (.ref b1), .val (.long r77), .second, .val (.int r78), .val (.int (1 : Int32)), .unset] [(.int (1 : Int32))])) _
          refine XS.istore X78.here hx rfl (hb hby at_252) rfl (l' := #[.val (.long q0), .second, .val (.int p2), .val (.int p3), .val (.ref b1), .val (.long r77), .second, .val (.int r78), .val (.int (1 : Int32)), .val (.int (1 : Int32))]) rfl ?_
          show Steps p.tables e below (T78.setTop (mkF m 254 #[.val (.long q0), .second, .val (.int p2), .val (.int p3), .val (.ref b1), .val (.long r77), .second, .val (.int r78), .val (.int (1 : Int32)), .val (.int (1 : Int32))] [])) _
          refine XS.iload X78.here hx rfl (hb hby at_254) rfl ?_
          show Steps p.tables e below (T78.setTop (mkF m 256 #[.val (.long q0), .second, .val (.int p2), .val (.int p3), .val (.ref b1), .val (.long r77), .second, .val (.int r78), .val (.int (1 : Int32)), .val (.int (1 : Int32))] [(.int (1 : Int32))])) _
          refine XS.ifNo X78.here hx rfl (hb hby at_256) rfl ((if0 _ _).trans (feq (by decide : ¬ ((1 : Int32) = (0 : Int32)))).1) ?_
          show Steps p.tables e below (T78.setTop (mkF m 259 #[.val (.long q0), .second, .val (.int p2), .val (.int p3), .val (.ref b1), .val (.long r77), .second, .val (.int r78), .val (.int (1 : Int32)), .val (.int (1 : Int32))] [])) _
          refine XS.iload X78.here hx rfl (hb hby at_259) rfl ?_
          show Steps p.tables e below (T78.setTop (mkF m 261 #[.val (.long q0), .second, .val (.int p2), .val (.int p3), .val (.ref b1), .val (.long r77), .second, .val (.int r78), .val (.int (1 : Int32)), .val (.int (1 : Int32))] [(.int (1 : Int32))])) _
          refine XS.ifNo X78.here hx rfl (hb hby at_261) rfl ((if0 _ _).trans (feq (by decide : ¬ ((1 : Int32) = (0 : Int32)))).1) ?_
          show Steps p.tables e below (T78.setTop (mkF m 264 #[.val (.long q0), .second, .val (.int p2), .val (.int p3), .val (.ref b1), .val (.long r77), .second, .val (.int r78), .val (.int (1 : Int32)), .val (.int (1 : Int32))] [])) _
          refine XS.iconst X78.here hx rfl (hb hby at_264) ?_
          show Steps p.tables e below (T78.setTop (mkF m 265 #[.val (.long q0), .second, .val (.int p2), .val (.int p3), .val (.ref b1), .val (.long r77), .second, .val (.int r78), .val (.int (1 : Int32)), .val (.int (1 : Int32))] [(.int (1 : Int32))])) _
          refine XS.goto X78.here hx rfl (pc0 := 265) (pc' := 269) rfl (hb hby at_265) (by decide) (by decide) ?_
          exact k
        obtain ⟨fs, hrq, hrun, hended, hW, hsame⟩ := X78.leave (v := some (.int (1 : Int32))) (fun h => by rw [Bd.returns] at h; cases h)
        refine ⟨_, _, pre91 _ ?_, hrun, hended, _, _, rfl, ?_, ⟨_, rfl⟩, hW, hsame.mono (by decide) (by decide)⟩
        · show Steps p.tables e below (T78.setTop (mkF m 269 #[.val (.long q0), .second, .val (.int p2), .val (.int p3), .val (.ref b1), .val (.long r77), .second, .val (.int r78), .val (.int (1 : Int32)), .val (.int (1 : Int32))] [(.int (1 : Int32))])) _
          exact retN X78 hx (t := .boolean) Bd.returns (by simp) (hb hby at_269) hrq
        · show Q0 Z q0 p2 p3 h0 n0 _ T78.heap _
          rw [e78]
          exact ⟨rfl, N78⟩
set_option maxRecDepth 65536 in
set_option maxHeartbeats 40000000 in
theorem comes_1 {Post : Tables → Env → Array Value → State → Outcome → State → Prop} (hpost : ∀ tb e args s v u, (limb_1_1.after args s (.returned v) u = true ∧ limb_1_2.after args s (.returned v) u = true ∧ True) → FrameEnd s (.returned v) u (Jvm.fieldLocs frame_1_writes args s ++ Jvm.arrayLocs frame_1_arrays args s ++ Jvm.staticLocs frame_1_statics s) 16 128 → Post tb e args s (.returned v) u) :
    ArmFor flags0 classFile x code maxLocals ret World_1 tables_1 room_1 Calls_1 rest_1 Pre_1 Post := by
  intro l hfl _ _ p e ha hc hk s m args below hf hA hF happ hP
  obtain ⟨hcalls, hrest, hpre⟩ := hP
  obtain ⟨-, -, -, hnamed, -, -, -, hat⟩ := (Spec.applies_iff hf).mp happ
  obtain ⟨hg, hn⟩ := and_e (Cond.before_iff.mp (show (Jvm.Cond.and given_1 narrow_1).before args s = true from hpre))
  obtain ⟨gc, g0⟩ := and_e hg
  obtain ⟨ga0, g1⟩ := and_e g0
  obtain ⟨ga1, g2⟩ := and_e g1
  have ga2 := g2
  obtain ⟨w0, w1, w2, rfl⟩ : ∃ w0 w1 w2 : Value, args = #[w0, w1, w2] := by
    have hs : args.size = 3 := by simpa [Cond.value, given_1] using gc
    obtain ⟨L⟩ := args
    match L, hs with
    | [w0, w1, w2], _ => exact ⟨w0, w1, w2, rfl⟩
  have hw := fun d (hd : d ∈ tables_1) => atoms_spec (ws := Jvm.Cond.code x code maxLocals ret :: tables_1) hat d (List.mem_cons_of_mem _ hd)
  have hfit : Fit s := fun {y c} hc i hi => by
    obtain ⟨ha, rfl⟩ := Array.getElem?_eq_some_iff.mp hc
    have q := List.all_eq_true.mp ((Array.all_eq_true_iff_forall_mem.mp hF) _ (Array.getElem_mem ha)) i (List.mem_range.mpr hi)
    simpa [Array.getElem?_eq_getElem hi] using q
  obtain ⟨i0, ei0⟩ := isL_v ga0
  obtain rfl : w0 = (.long i0) := Option.some.inj ei0
  obtain ⟨i1, ei1⟩ := is_v ga1
  obtain rfl : w1 = (.int i1) := Option.some.inj ei1
  obtain ⟨i2, ei2⟩ := is_v ga2
  obtain rfl : w2 = (.int i2) := Option.some.inj ei2
  obtain ⟨n, o, h1, h2, h3, _, L, rfl, ⟨rfl, N⟩, hq⟩ := rm0 l s _ hw tables_1 i0 i1 i2  s.heap s.heap.size (Nat.le_refl _)  p e ha hc hk s m _ below hf ((Spec.applies_iff_loose hf).mp happ).1 ⟨rfl, State.Warmed39.refl s, rfl⟩ trivial
  refine ⟨n, _, h1, h2, h3, hpost _ _ _ _ _ _ ⟨Cond.after_iff.mpr rfl, Cond.after_iff.mpr (eq_i res_at (Term.int_eval (1)) rfl), trivial⟩ ⟨hq.1, hq.2.1, (hq.2.2.sift fun y hy => Or.inr (N y hy)).mono (by decide) (by decide)⟩⟩
theorem main_1_1 : Claimed_1_1 := comes_1 fun _ _ _ _ _ _ h hF => ⟨h.1, hF⟩
theorem main_1_2 : Claimed_1_2 := comes_1 fun _ _ _ _ _ _ h hF => ⟨h.2.1, hF⟩
end Jvm.Pilot.@@N@@
namespace Jvm.Pilot.@@N@@
open Jvm Jvm.ClassFile Sem Op Lib Jvm.Free Jvm.Stand Jvm.Pilot.@@N@@.Jvm.D
/-! MADE BY PROGRAM (witnessworld.py) out of the Statement's table words and the real class files: 12 classes; the members and pool entries that the words name. The judged class is class 1, her method 1. -/
namespace start1
open Jvm.ClassFile
def u (s : String) : CpInfo := .utf8 (stringToUtf16 s)
/-- a pool by its gaps: so many unusable entries, then the entry; so many at the end -/
def gap : Nat → List CpInfo → List CpInfo
  | 0, r => r
  | n + 1, r => .unusable :: gap n r
def poolList (es : List (Nat × CpInfo)) (last : Nat) : List CpInfo := es.foldr (fun e r => gap e.1 (e.2 :: r)) (gap last [])
def pool (es : List (Nat × CpInfo)) (last : Nat) : Array CpInfo := ⟨poolList es last⟩
def fileOf (pool : Array CpInfo) (this : Nat) (attrs : Array Attribute := #[]) (ms : Array MethodInfo := #[]) (fl : Nat := 33) (sup : Nat := 0) (ifs : Array Nat := #[]) (fds : Array FieldInfo := #[]) : ClassFile where
  minorVersion := 0
  majorVersion := 65
  constantPool := pool
  accessFlags := fl
  thisClass := this
  superClass := sup
  interfaces := ifs
  fields := fds
  methods := ms
  attributes := attrs
def plain (name : String) (sup : Option ClassId) : Class where
  name := name
  kind := .ordinary
  loader := none
  accessFlags := 33
  super := sup
  interfaces := #[]
  cf := none
  fields := #[]
  methods := #[]
  instanceTypes := #[]
  staticTypes := #[]
  resolved := #[]
  callSites := []
  init := .initialized
  statics := none
  mirror := none

def pool0 : Array CpInfo := pool [(5, u "<init>"), (0, u "()V"), (1, .class_ 10), (1, u "java/lang/Object")] 113

def k0m0 : Method := { name := "<init>", desc := "()V", sig := { parameters := [], returnType := none }, accessFlags := 1, code := none }
/-- java/lang/Object -/
def k0 : Class := { plain "java/lang/Object" none with
  accessFlags := 33
  interfaces := #[]
  cf := some (fileOf pool0 8 #[] #[{ accessFlags := 1, nameIndex := 5, descriptorIndex := 6, attributes := #[] }] 33 0 #[] #[])
  fields := #[]
  methods := #[k0m0]
  instanceTypes := #[]
  staticTypes := #[]
  resolved := Array.replicate 124 none
  statics := none }

def pool1 : Array CpInfo := pool [(2, .class_ 4), (1, u "java/lang/Object"), (0, u "<init>"), (0, u "()V"), (0, .long 10), (1, .long 100), (1, .long 1000), (1, .long 10000), (1, .long 100000), (1, .long 1000000), (1, .long 10000000), (1, .long 100000000), (1, .long 1000000000), (1, .long 10000000000), (1, .long 100000000000), (1, .long 1000000000000), (1, .long 10000000000000), (1, .long 100000000000000), (1, .long 1000000000000000), (1, .long 10000000000000000), (1, .long 100000000000000000), (1, .long 1000000000000000000), (3, .long 9223372036854775807), (1, .integer 2147483647), (0, .long 7), (1, .long 4), (1, .methodref 53 54), (0, .class_ 55), (0, .nameAndType 56 57), (0, u "java/lang/Math"), (0, u "max"), (0, u "(JJ)J"), (0, .methodref 59 60), (0, .class_ 61), (0, .nameAndType 62 63), (0, u "quorumkeep/base/Ascii"), (0, u "digits"), (0, u "(J)I"), (0, .class_ 65), (0, u "quorumkeep/base/AsciiDigitsPinLaw"), (2, u "law"), (0, u "(JII)Z")] 5

def k1m0 : Method := { name := "<init>", desc := "()V", sig := { parameters := [], returnType := none }, accessFlags := 2, code := none }
def k1c1 : Code := { maxStack := 6, maxLocals := 10, code := code, exceptionTable := #[], attributes := #[] }
def k1m1 : Method := { name := "law", desc := "(JII)Z", sig := { parameters := [.long, .int, .int], returnType := some .boolean }, accessFlags := 9, code := some k1c1 }
/-- quorumkeep/base/AsciiDigitsPinLaw -/
def k1 : Class := { plain "quorumkeep/base/AsciiDigitsPinLaw" (some 0) with
  accessFlags := 49
  interfaces := #[]
  cf := some (fileOf pool1 64 #[] #[{ accessFlags := 2, nameIndex := 5, descriptorIndex := 6, attributes := #[] }, { accessFlags := 9, nameIndex := 68, descriptorIndex := 69, attributes := #[] }] 49 2 #[] #[])
  fields := #[]
  methods := #[k1m0, k1m1]
  instanceTypes := #[]
  staticTypes := #[]
  resolved := Array.replicate 75 none
  statics := none }

def pool2 : Array CpInfo := pool [(1, .class_ 2), (0, u "java/lang/Math"), (1, .class_ 6), (1, u "java/lang/Object"), (0, u "<init>"), (0, u "()V"), (89, .class_ 100), (1, u "java/lang/Math$RandomNumberGeneratorHolder"), (20, u "(JJ)J"), (50, u "negativeZeroFloatBits"), (0, u "J"), (2, u "negativeZeroDoubleBits"), (21, u "max"), (46, u "$assertionsDisabled"), (0, u "Z"), (91, u "twoToTheDoubleScaleDown"), (0, u "D"), (4, u "twoToTheDoubleScaleUp"), (9, u "E"), (3, u "PI"), (2, u "TAU"), (2, u "DEGREES_TO_RADIANS"), (0, u "RADIANS_TO_DEGREES")] 94

def k2m0 : Method := { name := "<init>", desc := "()V", sig := { parameters := [], returnType := none }, accessFlags := 2, code := none }
def k2c1 : Code := { maxStack := 4, maxLocals := 4, code := jdk_29_method_66_code, exceptionTable := #[], attributes := #[] }
def k2m1 : Method := { name := "max", desc := "(JJ)J", sig := { parameters := [.long, .long], returnType := some .long }, accessFlags := 9, code := some k2c1 }
/-- java/lang/Math -/
def k2 : Class := { plain "java/lang/Math" (some 0) with
  accessFlags := 49
  interfaces := #[]
  cf := some (fileOf pool2 1 #[.nestMembers #[98]] #[{ accessFlags := 2, nameIndex := 7, descriptorIndex := 8, attributes := #[] }, { accessFlags := 9, nameIndex := 198, descriptorIndex := 121, attributes := #[] }] 49 4 #[] #[{ accessFlags := 25, nameIndex := 354, descriptorIndex := 339, attributes := #[] }, { accessFlags := 25, nameIndex := 358, descriptorIndex := 339, attributes := #[] }, { accessFlags := 25, nameIndex := 361, descriptorIndex := 339, attributes := #[] }, { accessFlags := 26, nameIndex := 364, descriptorIndex := 339, attributes := #[] }, { accessFlags := 26, nameIndex := 365, descriptorIndex := 339, attributes := #[] }, { accessFlags := 26, nameIndex := 172, descriptorIndex := 173, attributes := #[] }, { accessFlags := 26, nameIndex := 176, descriptorIndex := 173, attributes := #[] }, { accessFlags := 8, nameIndex := 344, descriptorIndex := 339, attributes := #[] }, { accessFlags := 8, nameIndex := 338, descriptorIndex := 339, attributes := #[] }, { accessFlags := 4120, nameIndex := 245, descriptorIndex := 246, attributes := #[] }])
  fields := #[{ name := "E", type := .double, accessFlags := 25, slot := 0, constantValue := 0 }, { name := "PI", type := .double, accessFlags := 25, slot := 1, constantValue := 0 }, { name := "TAU", type := .double, accessFlags := 25, slot := 2, constantValue := 0 }, { name := "DEGREES_TO_RADIANS", type := .double, accessFlags := 26, slot := 3, constantValue := 0 }, { name := "RADIANS_TO_DEGREES", type := .double, accessFlags := 26, slot := 4, constantValue := 0 }, { name := "negativeZeroFloatBits", type := .long, accessFlags := 26, slot := 5, constantValue := 0 }, { name := "negativeZeroDoubleBits", type := .long, accessFlags := 26, slot := 6, constantValue := 0 }, { name := "twoToTheDoubleScaleUp", type := .double, accessFlags := 8, slot := 7, constantValue := 0 }, { name := "twoToTheDoubleScaleDown", type := .double, accessFlags := 8, slot := 8, constantValue := 0 }, { name := "$assertionsDisabled", type := .boolean, accessFlags := 4120, slot := 9, constantValue := 0 }]
  methods := #[k2m0, k2m1]
  instanceTypes := #[]
  staticTypes := #[.double, .double, .double, .double, .double, .long, .long, .double, .double, .boolean]
  resolved := Array.replicate 460 none
  statics := none }

def pool3 : Array CpInfo := pool [(2, .class_ 4), (1, u "java/lang/Object"), (0, u "<init>"), (0, u "()V"), (18, .long 10), (2, .class_ 30), (1, u "quorumkeep/base/Ascii"), (0, u "digits"), (0, u "(J)I")] 11

def k3m0 : Method := { name := "<init>", desc := "()V", sig := { parameters := [], returnType := none }, accessFlags := 2, code := none }
def k3c1 : Code := { maxStack := 4, maxLocals := 5, code := prog_29_method_3_code, exceptionTable := #[], attributes := #[] }
def k3m1 : Method := { name := "digits", desc := "(J)I", sig := { parameters := [.long], returnType := some .int }, accessFlags := 9, code := some k3c1 }
/-- quorumkeep/base/Ascii -/
def k3 : Class := { plain "quorumkeep/base/Ascii" (some 0) with
  accessFlags := 49
  interfaces := #[]
  cf := some (fileOf pool3 28 #[] #[{ accessFlags := 2, nameIndex := 5, descriptorIndex := 6, attributes := #[] }, { accessFlags := 9, nameIndex := 31, descriptorIndex := 32, attributes := #[] }] 49 2 #[] #[])
  fields := #[]
  methods := #[k3m0, k3m1]
  instanceTypes := #[]
  staticTypes := #[]
  resolved := Array.replicate 44 none
  statics := none }

def pool4 : Array CpInfo := pool [(1, u "java/lang/Cloneable"), (0, .class_ 1), (0, u "java/lang/Object"), (0, .class_ 3)] 3

/-- java/lang/Cloneable -/
def k4 : Class := { plain "java/lang/Cloneable" (some 0) with
  accessFlags := 1537
  interfaces := #[]
  cf := some (fileOf pool4 2 #[] #[] 1537 4 #[] #[])
  fields := #[]
  methods := #[]
  instanceTypes := #[]
  staticTypes := #[]
  resolved := Array.replicate 8 none
  statics := none }

def pool5 : Array CpInfo := pool [(1, u "java/io/Serializable"), (0, .class_ 1), (0, u "java/lang/Object"), (0, .class_ 3)] 3

/-- java/io/Serializable -/
def k5 : Class := { plain "java/io/Serializable" (some 0) with
  accessFlags := 1537
  interfaces := #[]
  cf := some (fileOf pool5 2 #[] #[] 1537 4 #[] #[])
  fields := #[]
  methods := #[]
  instanceTypes := #[]
  staticTypes := #[]
  resolved := Array.replicate 8 none
  statics := none }

/-- the primitive byte -/
def k6 : Class := { plain "byte" none with kind := .primitive 'B', accessFlags := 0x411 }
/-- [B -/
def k7 : Class := { plain "[B" (some 0) with kind := .array 6 .byte, interfaces := #[4, 5], accessFlags := 1041 }

/-- the primitive int -/
def k8 : Class := { plain "int" none with kind := .primitive 'I', accessFlags := 0x411 }
/-- [I -/
def k9 : Class := { plain "[I" (some 0) with kind := .array 8 .int, interfaces := #[4, 5], accessFlags := 1041 }

/-- the primitive long -/
def k10 : Class := { plain "long" none with kind := .primitive 'J', accessFlags := 0x411 }
/-- [J -/
def k11 : Class := { plain "[J" (some 0) with kind := .array 10 .long, interfaces := #[4, 5], accessFlags := 1041 }

def heap : Heap := #[]
def classes : Array Class := #[k0, k1, k2, k3, k4, k5, k6, k7, k8, k9, k10, k11]
def interned : List (Array UInt16 × Addr) := []
def slotsUsed : Nat := 0
def theMethod : MethodId := ⟨1, 1⟩
def args0 : Array Value := #[.long 12345, .int 3, .int 0]
def aboutOver (below : List Frame) : State where
  vm := { classes := classes, interned := interned.toArray }
  heap := heap
  slotsUsed := slotsUsed
  threads := #[{ frames := .invoking theMethod args0 :: below }]
def below0 : List Frame := [.native { method := ⟨0, 0⟩, args := #[] }]
def about1 : State := aboutOver below0
def p0 : Program := .bare "" "" ""
def e0 : Env := launch0.env 0 0 0
theorem w_frames : about1.frames = Frame.invoking theMethod args0 :: below0 := rfl
set_option maxRecDepth 65536 in
theorem w_args : argsFit about1.vm theMethod args0 = true := by decide +kernel
set_option maxRecDepth 65536 in
theorem w_heap : heapFits about1 = true := by decide +kernel
set_option maxRecDepth 65536 in
theorem w_runnable : about1.curStatus? = some .runnable := by decide +kernel
set_option maxRecDepth 65536 in
theorem w_alone : about1.alone = true := by decide +kernel
set_option maxRecDepth 65536 in
theorem w_named : about1.methodNamed? x = some theMethod := by decide +kernel
set_option maxRecDepth 65536 in
theorem w_hears : about1.hears theMethod below0 = true := by decide +kernel
set_option maxRecDepth 65536 in
theorem w_ripe : about1.ripe theMethod args0 below0 = true := by decide +kernel
theorem w_running : about1.status = .running := rfl
set_option maxRecDepth 65536 in
theorem w_room : about1.hasRoom e0.platform room_1 = true :=
  launch0.hasRoom_least _ room_1 (by decide +kernel) (by decide +kernel) (by decide +kernel) (by decide +kernel) (by decide +kernel) (by decide +kernel)
theorem allAtoms_all (ts : List Jvm.Cond) (a : Array Jvm.Value) (st : Jvm.State) : (allAtoms ts).before a st = ts.all (fun c => c.before a st) := by
  induction ts with
  | nil => rfl
  | cons c t ih =>
    show (Jvm.Cond.and c (allAtoms t)).before a st = _
    rw [Jvm.Cond.before_and, ih, List.all_cons]
def words1 : List Jvm.Cond := Jvm.Cond.code x code maxLocals ret :: tables_1
/-- a 'code' word, met by the world's own term for the bytes: nothing is compared byte by byte -/
theorem code_word {y : MethodName} {bytes : ByteArray} {mx : Nat} {rt : Option FieldType} {a : Array Value} {s : State} {m : MethodId} {meth : Method} {c : Code} (h1 : s.methodNamed? y = some m) (h2 : s.vm.method? m = some meth) (h3 : meth.code = some c) (h4 : c.code = bytes)
    (h5 : (c.maxLocals == mx && c.exceptionTable.isEmpty && decide (c.maxStack ≤ mostOperands) && decide (meth.sig.returnType = rt) && !meth.locks && decide (parseMethodDescriptor y.desc = some meth.sig)) = true) : (Jvm.Cond.code y bytes mx rt).before a s = true := by
  simp only [Bool.and_eq_true, beq_iff_eq, Bool.not_eq_true', decide_eq_true_eq] at h5
  obtain ⟨⟨⟨⟨⟨g1, g2⟩, g3⟩, g4⟩, g5⟩, g6⟩ := h5
  simp [Cond.before, Cond.holds, Cond.value, h1, h2, h3, h4, g1, g2, g3, g4, g5, g6]
def isCode : Jvm.Cond → Bool
  | .code _ _ _ _ => true
  | _ => false
theorem all_split {L : List Jvm.Cond} {P : Jvm.Cond → Bool} (h1 : L.all (fun c => isCode c || P c) = true) (h2 : ∀ c ∈ L.filter isCode, P c = true) : L.all P = true := by
  refine List.all_eq_true.mpr fun c hc => ?_
  have h := List.all_eq_true.mp h1 c hc
  rcases Bool.eq_false_or_eq_true (isCode c) with hi | hi
  · exact h2 c (List.mem_filter.mpr ⟨hc, hi⟩)
  · simpa [hi] using h
set_option maxRecDepth 65536 in
theorem w_c0 : (Jvm.Cond.code x code maxLocals ret).before args0 about1 = true := code_word (m := ⟨1, 1⟩) (meth := k1m1) (c := k1c1) (by decide +kernel) rfl rfl rfl (by decide +kernel)
set_option maxRecDepth 65536 in
theorem w_c1 : (Jvm.Cond.code ({ cls := "java/lang/Math", name := "max", desc := "(JJ)J" } : Jvm.MethodName) jdk_29_method_66_code (4 : Nat) (Option.some Jvm.ClassFile.FieldType.long)).before args0 about1 = true := code_word (m := ⟨2, 1⟩) (meth := k2m1) (c := k2c1) (by decide +kernel) rfl rfl rfl (by decide +kernel)
set_option maxRecDepth 65536 in
theorem w_c2 : (Jvm.Cond.code ({ cls := "quorumkeep/base/Ascii", name := "digits", desc := "(J)I" } : Jvm.MethodName) prog_29_method_3_code (5 : Nat) (Option.some Jvm.ClassFile.FieldType.int)).before args0 about1 = true := code_word (m := ⟨3, 1⟩) (meth := k3m1) (c := k3c1) (by decide +kernel) rfl rfl rfl (by decide +kernel)
def codes1 : List Jvm.Cond := [Jvm.Cond.code x code maxLocals ret, Jvm.Cond.code ({ cls := "java/lang/Math", name := "max", desc := "(JJ)J" } : Jvm.MethodName) jdk_29_method_66_code (4 : Nat) (Option.some Jvm.ClassFile.FieldType.long), Jvm.Cond.code ({ cls := "quorumkeep/base/Ascii", name := "digits", desc := "(J)I" } : Jvm.MethodName) prog_29_method_3_code (5 : Nat) (Option.some Jvm.ClassFile.FieldType.int)]
set_option maxRecDepth 65536 in
theorem codes_eq : words1.filter isCode = codes1 := rfl
theorem w_codes : ∀ c ∈ words1.filter isCode, c.before args0 about1 = true := by
  rw [codes_eq]
  intro c hc
  simp only [codes1, List.mem_cons, List.not_mem_nil, or_false] at hc
  rcases hc with rfl | rfl | rfl
  · exact w_c0
  · exact w_c1
  · exact w_c2
set_option maxRecDepth 65536 in
theorem w_t1 : (words1.take 24).all (fun c => isCode c || c.before args0 about1) = true := by decide +kernel
set_option maxRecDepth 65536 in
theorem w_t2 : (words1.drop 24).all (fun c => isCode c || c.before args0 about1) = true := by decide +kernel
theorem w_tables : (allAtoms (Jvm.Cond.code x code maxLocals ret :: tables_1)).before args0 about1 = true := by
  rw [allAtoms_all]
  show words1.all (fun c => c.before args0 about1) = true
  refine all_split ?_ w_codes
  rw [← List.take_append_drop 24 words1, List.all_append, w_t1, w_t2]
  rfl
set_option maxRecDepth 65536 in
theorem w_case : (Jvm.Cond.and given_1 narrow_1).before args0 about1 = true := by decide +kernel
theorem w_applies : (headSpec (Jvm.Cond.code x code maxLocals ret :: tables_1) room_1).applies x e0.platform about1 = true :=
  (Spec.applies_iff w_frames).mpr ⟨w_running, w_runnable, w_alone, w_named, w_hears, w_ripe, w_room, w_tables⟩
theorem atStart : AtStart classFile x code maxLocals ret World_1 tables_1 room_1 Calls_1 rest_1 Pre_1 launch0 p0 e0 about1 theMethod args0 below0 :=
  ⟨lists_1, trivial, launch0.admits_env _ _ _, launch0.least_env, fairChoices_fair.cas, fairChoices_fair.clock, w_frames, w_args, w_heap, w_applies, trivial, trivial, w_case⟩
end start1
theorem witness_1 : WitnessClaimed_1 := ⟨start1.p0, start1.e0, start1.about1, start1.theMethod, start1.args0, start1.below0, start1.atStart⟩
end Jvm.Pilot.@@N@@
