import JvmDerived
import JvmDerived.Pilot.@@N@@Statement
import JvmDerived.Pilot.@@N@@Code
set_option linter.unusedVariables false
set_option linter.unusedSimpArgs false
namespace Jvm.RoadKit
open Sem ClassFile Op Lib Jvm.Stand Jvm.Free Jvm.LawKit
section New
variable {p : Program} {l : Launch} {e : Env} {R : Room} {s : State} {m : MethodId} {args : Array Value} {below : List Frame} {meth : Method} {c : Code} {T : State} {locs : List Loc} {cells slots : Nat}
theorem retI (X : Stand p l e R s m args below meth c T locs cells slots) (hx : p.tables.exec = Jvm.exec) {pc : Nat} {Ls : Array Slot} {z : Int32} {rest : List Value} (hret : meth.sig.returnType = some .int) (hd : decode c.code pc = .ok (.ireturn, 1)) {fs : List Frame}
    (hl : ∀ (f : JFrame) (acts : List Action), f.method = m → f.locked = none → f.entered = [] → (doReturn e (T.setTop f) acts (some (.int z))).1 = T.setFrames fs) : Steps p.tables e below (T.setTop (mkF m pc Ls (.int z :: rest))) (T.setFrames fs) := by
  have hm' : T.vm.method? m = some meth := X.method'
  have hn : narrow .int (.int z) = .int z := rfl
  show Steps p.tables e below (T.setTop { method := m, pc := pc, locals := Ls, stack := _ :: rest, locked := none }) _
  jvm_step X.here [X.here.top, hx, hd, hm', hret, hn]
  first | (intro acts; rw [hl _ acts rfl rfl rfl]) | rw [hl _ _ rfl rfl rfl]
  exact Steps.refl _
theorem own_retN (X : Stand p l e R s m args below meth c T locs cells slots) (hx : p.tables.exec = Jvm.exec) {pc : Nat} {Ls : Array Slot} {z z' : Int32} {t : FieldType} {rest : List Value} (hret : meth.sig.returnType = some t) (ht : t = .boolean ∨ t = .byte ∨ t = .char ∨ t = .short)
    (hd : decode c.code pc = .ok (.ireturn, 1)) (hz : nar t z = z') {fs : List Frame} (hl : ∀ (f : JFrame) (acts : List Action), f.method = m → f.locked = none → f.entered = [] → (doReturn e (T.setTop f) acts (some (.int z'))).1 = T.setFrames fs) :
    Steps p.tables e below (T.setTop (mkF m pc Ls (.int z :: rest))) (T.setFrames fs) := by
  subst hz; exact retN X hx hret ht hd hl
end New
theorem own_nar_if {P : Prop} [Decidable P] {a b : Int32} (ha : nar .boolean a = a) (hb : nar .boolean b = b) : nar .boolean (if P then a else b) = if P then a else b := by
  split
  · exact ha
  · exact hb
theorem own_b_lt (x y : Int32) : (if if_icmp.holds .lt x y = true then (0 : Int32) else 1) = if x < y then 0 else 1 := by
  by_cases h : x < y
  · rw [(tlt h).1]; simp [h]
  · rw [(flt h).1]; simp [h]
theorem own_b_ge (x y : Int32) : (if if_icmp.holds .ge x y = true then (0 : Int32) else 1) = if x < y then 1 else 0 := by
  by_cases h : x < y
  · rw [(tlt h).2.1]; simp [h]
  · rw [(flt h).2.1]; simp [h]
theorem own_b_gt (x y : Int32) : (if if_icmp.holds .gt x y = true then (0 : Int32) else 1) = if y < x then 0 else 1 := by
  by_cases h : y < x
  · rw [(tlt h).2.2.1]; simp [h]
  · rw [(flt h).2.2.1]; simp [h]
theorem own_b_le (x y : Int32) : (if if_icmp.holds .le x y = true then (0 : Int32) else 1) = if y < x then 1 else 0 := by
  by_cases h : y < x
  · rw [(tlt h).2.2.2]; simp [h]
  · rw [(flt h).2.2.2]; simp [h]
theorem own_b_eq (x y : Int32) : (if if_icmp.holds .eq x y = true then (0 : Int32) else 1) = if x = y then 0 else 1 := by
  by_cases h : x = y
  · rw [(teq h).1]; simp [h]
  · rw [(feq h).1]; simp [h]
theorem own_b_ne (x y : Int32) : (if if_icmp.holds .ne x y = true then (0 : Int32) else 1) = if x = y then 1 else 0 := by
  by_cases h : x = y
  · rw [(teq h).2]; simp [h]
  · rw [(feq h).2]; simp [h]
theorem own_boolC {tb : Tables} [Ours tb] {e : Env} {below : List Frame} {T target : State} {m : MethodId} {c : Code} {g : JFrame} (h : At T m c below) (hx : tb.exec = Jvm.exec) (hg : g.method = m) {cd : ClassFile.Cond} {x y z : Int32} {rest : List Value}
    (hd0 : decode c.code g.pc = .ok (.if_icmp cd 7, 3)) (hd1 : decode c.code (g.pc + 3) = .ok (.iconst 1, 1)) (hd2 : decode c.code (g.pc + 4) = .ok (.goto 4, 3)) (hd3 : decode c.code (g.pc + 7) = .ok (.iconst 0, 1)) (hs : g.stack = .int y :: .int x :: rest)
    (hz : (if if_icmp.holds cd x y = true then (0 : Int32) else 1) = z) (hr : Steps tb e below (T.setTop { g with pc := g.pc + 8, stack := .int z :: rest }) target) : Steps tb e below (T.setTop g) target := by
  by_cases hc : if_icmp.holds cd x y = true
  · rw [if_pos hc] at hz; subst hz
    exact XS.icmpYes h hx hg (pc0 := g.pc) (pc' := g.pc + 7) rfl hd0 hs hc (by omega) (by omega) (XS.iconst h hx hg hd3 hr)
  · rw [if_neg hc] at hz; subst hz
    exact XS.icmpNo h hx hg hd0 hs (by simpa using hc) (XS.iconst h hx hg hd1 (XS.goto h hx hg (pc0 := g.pc + 4) (pc' := g.pc + 8) rfl hd2 (by omega) (by omega) hr))
theorem own_boolI {tb : Tables} [Ours tb] {e : Env} {below : List Frame} {T target : State} {m : MethodId} {c : Code} {g : JFrame} (h : At T m c below) (hx : tb.exec = Jvm.exec) (hg : g.method = m) {cd : ClassFile.Cond} {x z : Int32} {rest : List Value}
    (hd0 : decode c.code g.pc = .ok (.ifCond cd 7, 3)) (hd1 : decode c.code (g.pc + 3) = .ok (.iconst 1, 1)) (hd2 : decode c.code (g.pc + 4) = .ok (.goto 4, 3)) (hd3 : decode c.code (g.pc + 7) = .ok (.iconst 0, 1)) (hs : g.stack = .int x :: rest)
    (hz : (if if_icmp.holds cd x 0 = true then (0 : Int32) else 1) = z) (hr : Steps tb e below (T.setTop { g with pc := g.pc + 8, stack := .int z :: rest }) target) : Steps tb e below (T.setTop g) target := by
  by_cases hc : if_icmp.holds cd x 0 = true
  · rw [if_pos hc] at hz; subst hz
    exact XS.ifYes h hx hg (pc0 := g.pc) (pc' := g.pc + 7) rfl hd0 hs ((if0 _ _).trans hc) (by omega) (by omega) (XS.iconst h hx hg hd3 hr)
  · rw [if_neg hc] at hz; subst hz
    exact XS.ifNo h hx hg hd0 hs ((if0 _ _).trans (by simpa using hc)) (XS.iconst h hx hg hd1 (XS.goto h hx hg (pc0 := g.pc + 4) (pc' := g.pc + 8) rfl hd2 (by omega) (by omega) hr))
theorem own_selects_private {y : MethodName} {s : State} {args : Array Value} {n : Nat} (hins : (Cond.instantiable y.cls n).before args s = true) (hpriv : (Cond.privateMethod y).before args s = true) (hinst : (Cond.instanceMethod y).before args s = true) (hy : y.cls ≠ "java/lang/invoke/MethodHandle" ∧ y.cls ≠ "java/lang/invoke/VarHandle" := by decide) :
    (Cond.selects y.cls y y).before args s = true := by
  obtain ⟨c, k, hc, hk, -, hniab, -, -⟩ := Cond.instantiable_spec hins
  have hni : k.isInterface = false := (Bool.or_eq_false_iff.mp hniab).1
  obtain ⟨mk, methM, hnamed, hmethM, -, -⟩ := Cond.instanceMethod_spec hinst
  have hfound : s.methodFound? y.cls y.name y.desc = some mk := State.methodFound?_of_named hnamed hy
  have hcls : mk.cls = c := Option.some.inj ((findClass_of_methodNamed hnamed).symm.trans hc)
  have hsel : selectMethod {} s.vm c mk = .method mk := selectMethod_private hmethM (Cond.privateMethod_at hpriv mk methM hnamed hmethM)
  simp only [Cond.before, Cond.holds, Cond.value, hc, hfound, hnamed, hsel, hcls, hk]
  simp; exact hni
theorem own_sta_keep {Z : State} {h h' : Heap} {C n d : String} {v : Value} {ws : List Addr} (F : Sta Z h C n d v) (K : Keep h h' ws) (q : ∀ x ∈ ws, ∀ cell : Cell, h[x]? = some cell → cell.vm.isStatics = false) : Sta Z h' C n d v := by
  obtain ⟨cf, i, k, f, st, cell, h1, h2, h3, h4, h5, h6, h7⟩ := F
  refine ⟨cf, i, k, f, st, cell, h1, h2, h3, h4, K.2.1 _ _ h5 (fun hm => ?_), h6, h7⟩
  rw [q _ hm _ h5] at h6; cases h6
theorem own_plain_exa {Z : State} {h : Heap} {a : Addr} {C : String} (F : Exa Z h a C) : ∀ cell : Cell, h[a]? = some cell → cell.vm.isStatics = false := fun cell hc => by
  obtain ⟨c, k, h1, -, -, h4, -⟩ := F
  cases h1.symm.trans hc; exact h4
end Jvm.RoadKit
namespace Jvm.Pilot.@@N@@
open Jvm Jvm.ClassFile Sem Op Lib Jvm.Free Jvm.Stand Jvm.LawKit Jvm.RoadKit Bundle Jvm.Pilot.@@N@@.Jvm.D
open Jvm.FP Jvm.Free.Fl
def own_pw (j : Int32) : UInt64 := ([4607182418800017408, 4621819117588971520, 4636737291354636288, 4652007308841189376, 4666723172467343360, 4681608360884174848, 4696837146684686336, 4711630319722168320, 4726483295884279808, 4741671816366391296, 4756540486875873280, 4771362005757984768, 4786511204640096256, 4801453603149578240, 4816244402031689728, 4831355200913801216, 4846369599423283200, 4861130398305394688, 4876203697187506176, 4891288408196988160, 4906019910204099648, 4921056587992461136, 4936209963552724370] : List UInt64).getD j.toNatClampNeg 0
theorem own_at (j : Int32) : ([(.double (4607182418800017408 : UInt64)), (.double (4621819117588971520 : UInt64)), (.double (4636737291354636288 : UInt64)), (.double (4652007308841189376 : UInt64)), (.double (4666723172467343360 : UInt64)), (.double (4681608360884174848 : UInt64)), (.double (4696837146684686336 : UInt64)), (.double (4711630319722168320 : UInt64)), (.double (4726483295884279808 : UInt64)), (.double (4741671816366391296 : UInt64)), (.double (4756540486875873280 : UInt64)), (.double (4771362005757984768 : UInt64)), (.double (4786511204640096256 : UInt64)), (.double (4801453603149578240 : UInt64)), (.double (4816244402031689728 : UInt64)), (.double (4831355200913801216 : UInt64)), (.double (4846369599423283200 : UInt64)), (.double (4861130398305394688 : UInt64)), (.double (4876203697187506176 : UInt64)), (.double (4891288408196988160 : UInt64)), (.double (4906019910204099648 : UInt64)), (.double (4921056587992461136 : UInt64)), (.double (4936209963552724370 : UInt64))] : List Value).getD j.toNatClampNeg (.double (0 : UInt64)) = .double (own_pw j) := by
  unfold own_pw
  generalize j.toNatClampNeg = n
  match n with
  | 0 => rfl
  | 1 => rfl
  | 2 => rfl
  | 3 => rfl
  | 4 => rfl
  | 5 => rfl
  | 6 => rfl
  | 7 => rfl
  | 8 => rfl
  | 9 => rfl
  | 10 => rfl
  | 11 => rfl
  | 12 => rfl
  | 13 => rfl
  | 14 => rfl
  | 15 => rfl
  | 16 => rfl
  | 17 => rfl
  | 18 => rfl
  | 19 => rfl
  | 20 => rfl
  | 21 => rfl
  | 22 => rfl
  | n + 23 => rfl
def own_ex (q : Int64) (p : Int32) : UInt64 := if lcmpW q (0 : Int64) < (0 : Int32) then (9221120237041090560 : UInt64) else if (0 : Int32) < lcmpW q (9007199254740992 : Int64) then (9221120237041090560 : UInt64) else if p < (-22 : Int32) then (9221120237041090560 : UInt64) else if (22 : Int32) < p then (9221120237041090560 : UInt64) else if p < (0 : Int32) then FP.ddiv (FP.l2d q) (own_pw (-p)) else FP.dmul (FP.l2d q) (own_pw p)
section
variable {q : Int64} {p : Int32}
theorem own_x1 (h : lcmpW q (0 : Int64) < (0 : Int32)) : own_ex q p = (9221120237041090560 : UInt64) := if_pos h
theorem own_x2 (h : (0 : Int32) < lcmpW q (9007199254740992 : Int64)) : own_ex q p = (9221120237041090560 : UInt64) := by
  unfold own_ex
  split
  · rfl
  · first | rfl | exact if_pos h
theorem own_x3 (h : p < (-22 : Int32)) : own_ex q p = (9221120237041090560 : UInt64) := by
  unfold own_ex
  split
  · rfl
  · split
    · rfl
    · first | rfl | exact if_pos h
theorem own_x4 (h : (22 : Int32) < p) : own_ex q p = (9221120237041090560 : UInt64) := by
  unfold own_ex
  split
  · rfl
  · split
    · rfl
    · split
      · rfl
      · first | rfl | exact if_pos h
theorem own_x5 (h1 : ¬ (lcmpW q (0 : Int64) < (0 : Int32))) (h2 : ¬ ((0 : Int32) < lcmpW q (9007199254740992 : Int64))) (h3 : ¬ (p < (-22 : Int32))) (h4 : ¬ ((22 : Int32) < p)) (h5 : p < (0 : Int32)) : own_ex q p = FP.ddiv (FP.l2d q) (own_pw (-p)) := by
  unfold own_ex
  rw [if_neg h1, if_neg h2, if_neg h3, if_neg h4, if_pos h5]
theorem own_x6 (h1 : ¬ (lcmpW q (0 : Int64) < (0 : Int32))) (h2 : ¬ ((0 : Int32) < lcmpW q (9007199254740992 : Int64))) (h3 : ¬ (p < (-22 : Int32))) (h4 : ¬ ((22 : Int32) < p)) (h5 : ¬ (p < (0 : Int32))) : own_ex q p = FP.dmul (FP.l2d q) (own_pw p) := by
  unfold own_ex
  rw [if_neg h1, if_neg h2, if_neg h3, if_neg h4, if_neg h5]
end
theorem own_in2 {p : Int32} (h4 : ¬ ((22 : Int32) < p)) (h5 : ¬ (p < (0 : Int32))) : ¬ p < 0 ∧ p < (23 : Int32) := by
  refine ⟨h5, ?_⟩
  rw [Int32.lt_iff_toInt_lt] at *
  have e1 : (22 : Int32).toInt = 22 := by decide
  have e2 : (23 : Int32).toInt = 23 := by decide
  omega
theorem own_in1 {p : Int32} (h3 : ¬ (p < (-22 : Int32))) (h5 : p < (0 : Int32)) : ¬ (-p) < 0 ∧ (-p) < (23 : Int32) := by
  have c1 := c_ineg p
  have r1 := rng32 (-p)
  rw [Int32.lt_iff_toInt_lt] at h3 h5
  rw [Int32.lt_iff_toInt_lt, Int32.lt_iff_toInt_lt]
  have e0 : (0 : Int32).toInt = 0 := by decide
  have e1 : (-22 : Int32).toInt = -22 := by decide
  have e2 : (23 : Int32).toInt = 23 := by decide
  omega
theorem own_nat {c : Int32} (h : ¬ c < 0 ∧ c < (23 : Int32)) : ∃ i : Fin 23, c = Int32.ofNat i.val := by
  obtain ⟨h1, h2⟩ := h
  rw [Int32.lt_iff_toInt_lt] at h1 h2
  have e1 : (0 : Int32).toInt = 0 := by decide
  have e2 : (23 : Int32).toInt = 23 := by decide
  refine ⟨⟨c.toInt.toNat, by omega⟩, Int32.toInt_inj.mp ?_⟩
  rw [Int32.toInt_ofNat_of_lt (by show c.toInt.toNat < _; omega)]
  show c.toInt = ((c.toInt.toNat : Nat) : Int)
  omega
theorem own_pwF : ∀ i : Fin 23, (own_pw (Int32.ofNat i.val)) &&& 0x7fffffffffffffff < 0x7ff0000000000000 ∧ (own_pw (Int32.ofNat i.val)) &&& 0x7fffffffffffffff ≠ 0 := by decide +kernel
theorem own_div (q : Int64) {p : Int32} (h : ¬ p < 0 ∧ p < (23 : Int32)) : NoNaN64 (FP.ddiv (FP.l2d q) (own_pw p)) := by
  obtain ⟨i, rfl⟩ := own_nat h
  exact ddiv_out (l2d_fin q).noNaN (own_pwF i).1 (own_pwF i).2
theorem own_mul (q : Int64) {p : Int32} (h : ¬ p < 0 ∧ p < (23 : Int32)) : NoNaN64 (FP.dmul (FP.l2d q) (own_pw p)) := by
  obtain ⟨i, rfl⟩ := own_nat h
  exact dmul_out (l2d_fin q) (own_pwF i).1
theorem own_el {s : State} {args : Array Value} {t : Term} {a : Addr} {c : Cell} {i : Int32} {n : Nat} {N : Int64} {u : UInt64} (ev : t.eval args s none [] s = some (.ref a)) (A : Arr s s.heap a c .double) (h : (Cond.eq (Term.elem t (Term.int i)) (Term.op1 .bitsD (Term.long N))).value args s none s [] = some true) (hi : decide (i < 0) = false) (hn : i.toNatClampNeg = n) (hu : N.toUInt64 = u) : c.slots[n]? = some (.double u) := by
  subst hn hu
  have hat : s.arrayAt? a = some c := Arr.fin (Vm.Alike.refl _) A
  have e1 : (Term.elem t (Term.int i)).eval args s none [] s = c.slots[i.toNatClampNeg]? := elem_f ev (Term.int_eval i) hat (of_decide_eq_false hi)
  have e2 : (Term.op1 .bitsD (Term.long N)).eval args s none [] s = some (.double N.toUInt64) := op1_f (long_at N)
  cases hv : c.slots[i.toNatClampNeg]? with
  | none => rw [hv] at e1; simp [Cond.value, e1] at h
  | some v => rw [hv] at e1; cases v <;> simp [Cond.value, e1, e2] at h; rw [h]
theorem own_tab {s : State} {args : Array Value} {t : Term} {a : Addr} {c : Cell} {vs : List Value} {dv : Value} (hf : Fit s) (ev : t.eval args s none [] s = some (.ref a)) (A : Arr s s.heap a c .double) (hl : (Cond.eq (Term.length t) (Term.int (23 : Int32))).value args s none s [] = some true) (H : HasL c 0 vs) (hv : vs.length = 23 := by rfl) : Arv s s.heap a c.cls .double (23 : Int32) vs dv := by
  have hat : s.arrayAt? a = some c := Arr.fin (Vm.Alike.refl _) A
  have h0 : (Term.int (23 : Int32)).eval args s none [] s = some (.int 23) := Term.int_eval 23
  have e1 : (Term.length t).eval args s none [] s = if c.slots.size < 2 ^ 31 then some (.int c.slots.size.toInt32) else none := by simp [Term.eval, ev, hat]
  by_cases hs : c.slots.size < 2 ^ 31
  · rw [if_pos hs] at e1
    have hz : c.slots.size.toInt32 = 23 := by simpa [Cond.value, e1, h0] using hl
    exact Arv.start hf A hs hz (by decide) (by rw [hv]; rfl) H
  · rw [if_neg hs] at e1
    simp [Cond.value, e1] at hl
theorem d2_0 : decode method_2_code 0 = .ok (.bipush 23, 2) := by decide +kernel
theorem d2_2 : decode method_2_code 2 = .ok (.newarray .double, 2) := by decide +kernel
theorem d2_4 : decode method_2_code 4 = .ok (.dup, 1) := by decide +kernel
theorem d2_5 : decode method_2_code 5 = .ok (.iconst 0, 1) := by decide +kernel
theorem d2_6 : decode method_2_code 6 = .ok (.dconst 1, 1) := by decide +kernel
theorem d2_7 : decode method_2_code 7 = .ok (.dastore, 1) := by decide +kernel
theorem d2_8 : decode method_2_code 8 = .ok (.dup, 1) := by decide +kernel
theorem d2_9 : decode method_2_code 9 = .ok (.iconst 1, 1) := by decide +kernel
theorem d2_10 : decode method_2_code 10 = .ok (.ldc2_w 7, 3) := by decide +kernel
theorem d2_13 : decode method_2_code 13 = .ok (.dastore, 1) := by decide +kernel
theorem d2_14 : decode method_2_code 14 = .ok (.dup, 1) := by decide +kernel
theorem d2_15 : decode method_2_code 15 = .ok (.iconst 2, 1) := by decide +kernel
theorem d2_16 : decode method_2_code 16 = .ok (.ldc2_w 9, 3) := by decide +kernel
theorem d2_19 : decode method_2_code 19 = .ok (.dastore, 1) := by decide +kernel
theorem d2_20 : decode method_2_code 20 = .ok (.dup, 1) := by decide +kernel
theorem d2_21 : decode method_2_code 21 = .ok (.iconst 3, 1) := by decide +kernel
theorem d2_22 : decode method_2_code 22 = .ok (.ldc2_w 11, 3) := by decide +kernel
theorem d2_25 : decode method_2_code 25 = .ok (.dastore, 1) := by decide +kernel
theorem d2_26 : decode method_2_code 26 = .ok (.dup, 1) := by decide +kernel
theorem d2_27 : decode method_2_code 27 = .ok (.iconst 4, 1) := by decide +kernel
theorem d2_28 : decode method_2_code 28 = .ok (.ldc2_w 13, 3) := by decide +kernel
theorem d2_31 : decode method_2_code 31 = .ok (.dastore, 1) := by decide +kernel
theorem d2_32 : decode method_2_code 32 = .ok (.dup, 1) := by decide +kernel
theorem d2_33 : decode method_2_code 33 = .ok (.iconst 5, 1) := by decide +kernel
theorem d2_34 : decode method_2_code 34 = .ok (.ldc2_w 15, 3) := by decide +kernel
theorem d2_37 : decode method_2_code 37 = .ok (.dastore, 1) := by decide +kernel
theorem d2_38 : decode method_2_code 38 = .ok (.dup, 1) := by decide +kernel
theorem d2_39 : decode method_2_code 39 = .ok (.bipush 6, 2) := by decide +kernel
theorem d2_41 : decode method_2_code 41 = .ok (.ldc2_w 17, 3) := by decide +kernel
theorem d2_44 : decode method_2_code 44 = .ok (.dastore, 1) := by decide +kernel
theorem d2_45 : decode method_2_code 45 = .ok (.dup, 1) := by decide +kernel
theorem d2_46 : decode method_2_code 46 = .ok (.bipush 7, 2) := by decide +kernel
theorem d2_48 : decode method_2_code 48 = .ok (.ldc2_w 19, 3) := by decide +kernel
theorem d2_51 : decode method_2_code 51 = .ok (.dastore, 1) := by decide +kernel
theorem d2_52 : decode method_2_code 52 = .ok (.dup, 1) := by decide +kernel
theorem d2_53 : decode method_2_code 53 = .ok (.bipush 8, 2) := by decide +kernel
theorem d2_55 : decode method_2_code 55 = .ok (.ldc2_w 21, 3) := by decide +kernel
theorem d2_58 : decode method_2_code 58 = .ok (.dastore, 1) := by decide +kernel
theorem d2_59 : decode method_2_code 59 = .ok (.dup, 1) := by decide +kernel
theorem d2_60 : decode method_2_code 60 = .ok (.bipush 9, 2) := by decide +kernel
theorem d2_62 : decode method_2_code 62 = .ok (.ldc2_w 23, 3) := by decide +kernel
theorem d2_65 : decode method_2_code 65 = .ok (.dastore, 1) := by decide +kernel
theorem d2_66 : decode method_2_code 66 = .ok (.dup, 1) := by decide +kernel
theorem d2_67 : decode method_2_code 67 = .ok (.bipush 10, 2) := by decide +kernel
theorem d2_69 : decode method_2_code 69 = .ok (.ldc2_w 25, 3) := by decide +kernel
theorem d2_72 : decode method_2_code 72 = .ok (.dastore, 1) := by decide +kernel
theorem d2_73 : decode method_2_code 73 = .ok (.dup, 1) := by decide +kernel
theorem d2_74 : decode method_2_code 74 = .ok (.bipush 11, 2) := by decide +kernel
theorem d2_76 : decode method_2_code 76 = .ok (.ldc2_w 27, 3) := by decide +kernel
theorem d2_79 : decode method_2_code 79 = .ok (.dastore, 1) := by decide +kernel
theorem d2_80 : decode method_2_code 80 = .ok (.dup, 1) := by decide +kernel
theorem d2_81 : decode method_2_code 81 = .ok (.bipush 12, 2) := by decide +kernel
theorem d2_83 : decode method_2_code 83 = .ok (.ldc2_w 29, 3) := by decide +kernel
theorem d2_86 : decode method_2_code 86 = .ok (.dastore, 1) := by decide +kernel
theorem d2_87 : decode method_2_code 87 = .ok (.dup, 1) := by decide +kernel
theorem d2_88 : decode method_2_code 88 = .ok (.bipush 13, 2) := by decide +kernel
theorem d2_90 : decode method_2_code 90 = .ok (.ldc2_w 31, 3) := by decide +kernel
theorem d2_93 : decode method_2_code 93 = .ok (.dastore, 1) := by decide +kernel
theorem d2_94 : decode method_2_code 94 = .ok (.dup, 1) := by decide +kernel
theorem d2_95 : decode method_2_code 95 = .ok (.bipush 14, 2) := by decide +kernel
theorem d2_97 : decode method_2_code 97 = .ok (.ldc2_w 33, 3) := by decide +kernel
theorem d2_100 : decode method_2_code 100 = .ok (.dastore, 1) := by decide +kernel
theorem d2_101 : decode method_2_code 101 = .ok (.dup, 1) := by decide +kernel
theorem d2_102 : decode method_2_code 102 = .ok (.bipush 15, 2) := by decide +kernel
theorem d2_104 : decode method_2_code 104 = .ok (.ldc2_w 35, 3) := by decide +kernel
theorem d2_107 : decode method_2_code 107 = .ok (.dastore, 1) := by decide +kernel
theorem d2_108 : decode method_2_code 108 = .ok (.dup, 1) := by decide +kernel
theorem d2_109 : decode method_2_code 109 = .ok (.bipush 16, 2) := by decide +kernel
theorem d2_111 : decode method_2_code 111 = .ok (.ldc2_w 37, 3) := by decide +kernel
theorem d2_114 : decode method_2_code 114 = .ok (.dastore, 1) := by decide +kernel
theorem d2_115 : decode method_2_code 115 = .ok (.dup, 1) := by decide +kernel
theorem d2_116 : decode method_2_code 116 = .ok (.bipush 17, 2) := by decide +kernel
theorem d2_118 : decode method_2_code 118 = .ok (.ldc2_w 39, 3) := by decide +kernel
theorem d2_121 : decode method_2_code 121 = .ok (.dastore, 1) := by decide +kernel
theorem d2_122 : decode method_2_code 122 = .ok (.dup, 1) := by decide +kernel
theorem d2_123 : decode method_2_code 123 = .ok (.bipush 18, 2) := by decide +kernel
theorem d2_125 : decode method_2_code 125 = .ok (.ldc2_w 41, 3) := by decide +kernel
theorem d2_128 : decode method_2_code 128 = .ok (.dastore, 1) := by decide +kernel
theorem d2_129 : decode method_2_code 129 = .ok (.dup, 1) := by decide +kernel
theorem d2_130 : decode method_2_code 130 = .ok (.bipush 19, 2) := by decide +kernel
theorem d2_132 : decode method_2_code 132 = .ok (.ldc2_w 43, 3) := by decide +kernel
theorem d2_135 : decode method_2_code 135 = .ok (.dastore, 1) := by decide +kernel
theorem d2_136 : decode method_2_code 136 = .ok (.dup, 1) := by decide +kernel
theorem d2_137 : decode method_2_code 137 = .ok (.bipush 20, 2) := by decide +kernel
theorem d2_139 : decode method_2_code 139 = .ok (.ldc2_w 45, 3) := by decide +kernel
theorem d2_142 : decode method_2_code 142 = .ok (.dastore, 1) := by decide +kernel
theorem d2_143 : decode method_2_code 143 = .ok (.dup, 1) := by decide +kernel
theorem d2_144 : decode method_2_code 144 = .ok (.bipush 21, 2) := by decide +kernel
theorem d2_146 : decode method_2_code 146 = .ok (.ldc2_w 47, 3) := by decide +kernel
theorem d2_149 : decode method_2_code 149 = .ok (.dastore, 1) := by decide +kernel
theorem d2_150 : decode method_2_code 150 = .ok (.dup, 1) := by decide +kernel
theorem d2_151 : decode method_2_code 151 = .ok (.bipush 22, 2) := by decide +kernel
theorem d2_153 : decode method_2_code 153 = .ok (.ldc2_w 49, 3) := by decide +kernel
theorem d2_156 : decode method_2_code 156 = .ok (.dastore, 1) := by decide +kernel
theorem d2_157 : decode method_2_code 157 = .ok (.astore_n 1, 1) := by decide +kernel
theorem d2_158 : decode method_2_code 158 = .ok (.aload_n 1, 1) := by decide +kernel
theorem d2_159 : decode method_2_code 159 = .ok (.iload_n 0, 1) := by decide +kernel
theorem d2_160 : decode method_2_code 160 = .ok (.daload, 1) := by decide +kernel
theorem d2_161 : decode method_2_code 161 = .ok (.dreturn, 1) := by decide +kernel
theorem ef_rmpow (m : MethodId) (x0 : Int32) : entryFrame m #[(.int x0)] 2 = mkF m 0 #[.val (.int x0), .unset] [] := by first | (simp [entryFrame, mkF, argsToLocals, Value.category]; done) | rfl
theorem pn_0 : plainName "com/example/gunny/gunny/DecimalsExactlyPinLaw" = true := by first | (simp [plainName, overriddenIn]; done) | decide +kernel
def Qpow (Z : State) (p0 : Int32) (h0 : Heap) (n0 : Nat) (v : Option Value) (h : Heap) (L : List Loc) : Prop := v = some (.double (own_pw p0)) ∧ Fr n0 L ∧ Keep h0 h []
set_option maxRecDepth 65536 in
set_option maxHeartbeats 40000000 in
theorem rmpow (l : Launch) (Z : State) (a0 : Array Value) (hw : ∀ d ∈ tables_1, d.before a0 Z = true) (ws : List Jvm.Cond) (p0 : Int32) (h0 : Heap) (n0 : Nat) (Z0 : n0 ≤ h0.size) (hk : ¬ p0 < 0 ∧ p0 < (23 : Int32)) :
    MetFree l (⟨"com/example/gunny/gunny/DecimalsExactlyPinLaw", "pow10", "(I)D"⟩ : MethodName) (head1 (Jvm.Cond.code (⟨"com/example/gunny/gunny/DecimalsExactlyPinLaw", "pow10", "(I)D"⟩ : MethodName) method_2_code 2 (some .double) :: ws) ({ frames := 0, cells := 1, slots := 23, locals := 0 } : Room)) (fun a U => a = #[(.int p0)] ∧ Z.Warmed39 U.vm ∧ U.heap = h0) (fun _ _ _ _ _ => True) (fun _ U o U' => ∃ v L, o = .returned v ∧ Qpow Z p0 h0 n0 v U'.heap L ∧ FrameEnd U o U' L ({ frames := 0, cells := 1, slots := 23, locals := 0 } : Room).cells ({ frames := 0, cells := 1, slots := 23, locals := 0 } : Room).slots) := by
  refine MetFree.of_bodySF (plainFor_of_name pn_0) hisR ?_
  intro p e s0 m args below meth c s₁ Bd hml0 hP hK
  obtain ⟨rfl, hZ, hh⟩ := hP
  have hx := Bd.exec
  have hby := Bd.bytes
  have hml : c.maxLocals = 2 := hml0
  have hown : s0.vm.findClass "com/example/gunny/gunny/DecimalsExactlyPinLaw" = some m.cls := findClass_of_methodNamed Bd.named
  have hnm := (name_of_methodNamed Bd.named Bd.method).1
  have X0 : Stand p l e ({ frames := 0, cells := 1, slots := 23, locals := 0 } : Room) s0 m #[(.int p0)] below meth c s₁ [] 0 0 := Stand.of_body Bd
  have e0 : s₁.heap = h0 := by rw [← hh, Bd.state]; rfl
  have N0 := Fr.nil n0
  have pre0 : ∀ t, Steps p.tables e below (s₁.setTop (mkF m 0 #[.val (.int p0), .unset] [])) t → Steps p.tables e below (s₁.setTop (entryFrame m #[(.int p0)] 2)) t := fun t k => castTop (ef_rmpow m p0) k
  obtain ⟨T1, h1, k1, X1, e1, E1, A1, st1⟩ := newP X0 hx hZ (hw _ (List.mem_of_getElem? (i := 13) rfl)) e0 (g := (mkF m 2 #[.val (.int p0), .unset] [(.int (23 : Int32))])) rfl (hb hby d2_2) rfl (by decide) (cap := 23) (by decide) (by decide) (by decide) (by decide)
  obtain ⟨b1, g1⟩ : ∃ z, z = h0.size := ⟨_, rfl⟩
  rw [← g1] at A1 st1
  have g_b1 : n0 ≤ b1 := Nat.le_trans Z0 (Nat.le_of_eq g1.symm)
  have sz_b1 : h0.size ≤ b1 := Nat.le_trans (Keep.refl h0 []).1 (Nat.le_of_eq g1.symm)
  have Z2 : n0 ≤ h1.size := Nat.le_trans Z0 E1.1
  have K1 : Keep h0 h1 [] := (Keep.refl h0 []).ext E1
  have V1 : Arv Z h1 b1 k1 .double (23 : Int32) [(.double (0 : UInt64)), (.double (0 : UInt64)), (.double (0 : UInt64)), (.double (0 : UInt64)), (.double (0 : UInt64)), (.double (0 : UInt64)), (.double (0 : UInt64)), (.double (0 : UInt64)), (.double (0 : UInt64)), (.double (0 : UInt64)), (.double (0 : UInt64)), (.double (0 : UInt64)), (.double (0 : UInt64)), (.double (0 : UInt64)), (.double (0 : UInt64)), (.double (0 : UInt64)), (.double (0 : UInt64)), (.double (0 : UInt64)), (.double (0 : UInt64)), (.double (0 : UInt64)), (.double (0 : UInt64)), (.double (0 : UInt64)), (.double (0 : UInt64))] (.double (0 : UInt64)) := (Arv.new A1 (by decide)).pad (pad_rep [] (.double (0 : UInt64)) 23)
  obtain ⟨cl3, Ar3, q3, Sz3, Nz3, Hs3, Gs3⟩ := id V1
  have hin3 : ¬ ((0 : Int32) < 0 ∨ cl3.slots.size ≤ ((0 : Int32)).toNatClampNeg) := inb_of Sz3 ⟨by decide, by decide⟩
  obtain ⟨T4, h4, X4, e4, W4, st4⟩ := stD X1 hx hZ e1 Ar3 (j := (0 : Int32)) hin3 (g := (mkF m 7 #[.val (.int p0), .unset] [(.double (4607182418800017408 : UInt64)), (.int (0 : Int32)), (.ref b1), (.ref b1)])) rfl rfl (hb hby d2_7)
  have V4 : Arv Z h4 b1 k1 .double (23 : Int32) [(.double (4607182418800017408 : UInt64)), (.double (0 : UInt64)), (.double (0 : UInt64)), (.double (0 : UInt64)), (.double (0 : UInt64)), (.double (0 : UInt64)), (.double (0 : UInt64)), (.double (0 : UInt64)), (.double (0 : UInt64)), (.double (0 : UInt64)), (.double (0 : UInt64)), (.double (0 : UInt64)), (.double (0 : UInt64)), (.double (0 : UInt64)), (.double (0 : UInt64)), (.double (0 : UInt64)), (.double (0 : UInt64)), (.double (0 : UInt64)), (.double (0 : UInt64)), (.double (0 : UInt64)), (.double (0 : UInt64)), (.double (0 : UInt64)), (.double (0 : UInt64))] (.double (0 : UInt64)) := Arv.set Ar3 q3 Sz3 Nz3 Hs3 Gs3 rfl W4 0 rfl (Nat.le_of_ble_eq_true rfl)
  have Z5 : n0 ≤ h4.size := Nat.le_trans Z2 (Keep.of_wr W4).1
  have K4 : Keep h0 h4 [] := K1.wr W4 (Or.inr sz_b1)
  have N4 := Fr.snoc X4 N0 g_b1
  obtain ⟨cl6, Ar6, q6, Sz6, Nz6, Hs6, Gs6⟩ := id V4
  have hin6 : ¬ ((1 : Int32) < 0 ∨ cl6.slots.size ≤ ((1 : Int32)).toNatClampNeg) := inb_of Sz6 ⟨by decide, by decide⟩
  obtain ⟨T7, h7, X7, e7, W7, st7⟩ := stD X4 hx hZ e4 Ar6 (j := (1 : Int32)) hin6 (g := (mkF m 13 #[.val (.int p0), .unset] [(.double (4621819117588971520 : UInt64)), (.int (1 : Int32)), (.ref b1), (.ref b1)])) rfl rfl (hb hby d2_13)
  have V7 : Arv Z h7 b1 k1 .double (23 : Int32) [(.double (4607182418800017408 : UInt64)), (.double (4621819117588971520 : UInt64)), (.double (0 : UInt64)), (.double (0 : UInt64)), (.double (0 : UInt64)), (.double (0 : UInt64)), (.double (0 : UInt64)), (.double (0 : UInt64)), (.double (0 : UInt64)), (.double (0 : UInt64)), (.double (0 : UInt64)), (.double (0 : UInt64)), (.double (0 : UInt64)), (.double (0 : UInt64)), (.double (0 : UInt64)), (.double (0 : UInt64)), (.double (0 : UInt64)), (.double (0 : UInt64)), (.double (0 : UInt64)), (.double (0 : UInt64)), (.double (0 : UInt64)), (.double (0 : UInt64)), (.double (0 : UInt64))] (.double (0 : UInt64)) := Arv.set Ar6 q6 Sz6 Nz6 Hs6 Gs6 rfl W7 1 rfl (Nat.le_of_ble_eq_true rfl)
  have Z8 : n0 ≤ h7.size := Nat.le_trans Z5 (Keep.of_wr W7).1
  have K7 : Keep h0 h7 [] := K4.wr W7 (Or.inr sz_b1)
  have N7 := Fr.snoc X7 N4 g_b1
  obtain ⟨cl9, Ar9, q9, Sz9, Nz9, Hs9, Gs9⟩ := id V7
  have hin9 : ¬ ((2 : Int32) < 0 ∨ cl9.slots.size ≤ ((2 : Int32)).toNatClampNeg) := inb_of Sz9 ⟨by decide, by decide⟩
  obtain ⟨T10, h10, X10, e10, W10, st10⟩ := stD X7 hx hZ e7 Ar9 (j := (2 : Int32)) hin9 (g := (mkF m 19 #[.val (.int p0), .unset] [(.double (4636737291354636288 : UInt64)), (.int (2 : Int32)), (.ref b1), (.ref b1)])) rfl rfl (hb hby d2_19)
  have V10 : Arv Z h10 b1 k1 .double (23 : Int32) [(.double (4607182418800017408 : UInt64)), (.double (4621819117588971520 : UInt64)), (.double (4636737291354636288 : UInt64)), (.double (0 : UInt64)), (.double (0 : UInt64)), (.double (0 : UInt64)), (.double (0 : UInt64)), (.double (0 : UInt64)), (.double (0 : UInt64)), (.double (0 : UInt64)), (.double (0 : UInt64)), (.double (0 : UInt64)), (.double (0 : UInt64)), (.double (0 : UInt64)), (.double (0 : UInt64)), (.double (0 : UInt64)), (.double (0 : UInt64)), (.double (0 : UInt64)), (.double (0 : UInt64)), (.double (0 : UInt64)), (.double (0 : UInt64)), (.double (0 : UInt64)), (.double (0 : UInt64))] (.double (0 : UInt64)) := Arv.set Ar9 q9 Sz9 Nz9 Hs9 Gs9 rfl W10 2 rfl (Nat.le_of_ble_eq_true rfl)
  have Z11 : n0 ≤ h10.size := Nat.le_trans Z8 (Keep.of_wr W10).1
  have K10 : Keep h0 h10 [] := K7.wr W10 (Or.inr sz_b1)
  have N10 := Fr.snoc X10 N7 g_b1
  obtain ⟨cl12, Ar12, q12, Sz12, Nz12, Hs12, Gs12⟩ := id V10
  have hin12 : ¬ ((3 : Int32) < 0 ∨ cl12.slots.size ≤ ((3 : Int32)).toNatClampNeg) := inb_of Sz12 ⟨by decide, by decide⟩
  obtain ⟨T13, h13, X13, e13, W13, st13⟩ := stD X10 hx hZ e10 Ar12 (j := (3 : Int32)) hin12 (g := (mkF m 25 #[.val (.int p0), .unset] [(.double (4652007308841189376 : UInt64)), (.int (3 : Int32)), (.ref b1), (.ref b1)])) rfl rfl (hb hby d2_25)
  have V13 : Arv Z h13 b1 k1 .double (23 : Int32) [(.double (4607182418800017408 : UInt64)), (.double (4621819117588971520 : UInt64)), (.double (4636737291354636288 : UInt64)), (.double (4652007308841189376 : UInt64)), (.double (0 : UInt64)), (.double (0 : UInt64)), (.double (0 : UInt64)), (.double (0 : UInt64)), (.double (0 : UInt64)), (.double (0 : UInt64)), (.double (0 : UInt64)), (.double (0 : UInt64)), (.double (0 : UInt64)), (.double (0 : UInt64)), (.double (0 : UInt64)), (.double (0 : UInt64)), (.double (0 : UInt64)), (.double (0 : UInt64)), (.double (0 : UInt64)), (.double (0 : UInt64)), (.double (0 : UInt64)), (.double (0 : UInt64)), (.double (0 : UInt64))] (.double (0 : UInt64)) := Arv.set Ar12 q12 Sz12 Nz12 Hs12 Gs12 rfl W13 3 rfl (Nat.le_of_ble_eq_true rfl)
  have Z14 : n0 ≤ h13.size := Nat.le_trans Z11 (Keep.of_wr W13).1
  have K13 : Keep h0 h13 [] := K10.wr W13 (Or.inr sz_b1)
  have N13 := Fr.snoc X13 N10 g_b1
  obtain ⟨cl15, Ar15, q15, Sz15, Nz15, Hs15, Gs15⟩ := id V13
  have hin15 : ¬ ((4 : Int32) < 0 ∨ cl15.slots.size ≤ ((4 : Int32)).toNatClampNeg) := inb_of Sz15 ⟨by decide, by decide⟩
  obtain ⟨T16, h16, X16, e16, W16, st16⟩ := stD X13 hx hZ e13 Ar15 (j := (4 : Int32)) hin15 (g := (mkF m 31 #[.val (.int p0), .unset] [(.double (4666723172467343360 : UInt64)), (.int (4 : Int32)), (.ref b1), (.ref b1)])) rfl rfl (hb hby d2_31)
  have V16 : Arv Z h16 b1 k1 .double (23 : Int32) [(.double (4607182418800017408 : UInt64)), (.double (4621819117588971520 : UInt64)), (.double (4636737291354636288 : UInt64)), (.double (4652007308841189376 : UInt64)), (.double (4666723172467343360 : UInt64)), (.double (0 : UInt64)), (.double (0 : UInt64)), (.double (0 : UInt64)), (.double (0 : UInt64)), (.double (0 : UInt64)), (.double (0 : UInt64)), (.double (0 : UInt64)), (.double (0 : UInt64)), (.double (0 : UInt64)), (.double (0 : UInt64)), (.double (0 : UInt64)), (.double (0 : UInt64)), (.double (0 : UInt64)), (.double (0 : UInt64)), (.double (0 : UInt64)), (.double (0 : UInt64)), (.double (0 : UInt64)), (.double (0 : UInt64))] (.double (0 : UInt64)) := Arv.set Ar15 q15 Sz15 Nz15 Hs15 Gs15 rfl W16 4 rfl (Nat.le_of_ble_eq_true rfl)
  have Z17 : n0 ≤ h16.size := Nat.le_trans Z14 (Keep.of_wr W16).1
  have K16 : Keep h0 h16 [] := K13.wr W16 (Or.inr sz_b1)
  have N16 := Fr.snoc X16 N13 g_b1
  obtain ⟨cl18, Ar18, q18, Sz18, Nz18, Hs18, Gs18⟩ := id V16
  have hin18 : ¬ ((5 : Int32) < 0 ∨ cl18.slots.size ≤ ((5 : Int32)).toNatClampNeg) := inb_of Sz18 ⟨by decide, by decide⟩
  obtain ⟨T19, h19, X19, e19, W19, st19⟩ := stD X16 hx hZ e16 Ar18 (j := (5 : Int32)) hin18 (g := (mkF m 37 #[.val (.int p0), .unset] [(.double (4681608360884174848 : UInt64)), (.int (5 : Int32)), (.ref b1), (.ref b1)])) rfl rfl (hb hby d2_37)
  have V19 : Arv Z h19 b1 k1 .double (23 : Int32) [(.double (4607182418800017408 : UInt64)), (.double (4621819117588971520 : UInt64)), (.double (4636737291354636288 : UInt64)), (.double (4652007308841189376 : UInt64)), (.double (4666723172467343360 : UInt64)), (.double (4681608360884174848 : UInt64)), (.double (0 : UInt64)), (.double (0 : UInt64)), (.double (0 : UInt64)), (.double (0 : UInt64)), (.double (0 : UInt64)), (.double (0 : UInt64)), (.double (0 : UInt64)), (.double (0 : UInt64)), (.double (0 : UInt64)), (.double (0 : UInt64)), (.double (0 : UInt64)), (.double (0 : UInt64)), (.double (0 : UInt64)), (.double (0 : UInt64)), (.double (0 : UInt64)), (.double (0 : UInt64)), (.double (0 : UInt64))] (.double (0 : UInt64)) := Arv.set Ar18 q18 Sz18 Nz18 Hs18 Gs18 rfl W19 5 rfl (Nat.le_of_ble_eq_true rfl)
  have Z20 : n0 ≤ h19.size := Nat.le_trans Z17 (Keep.of_wr W19).1
  have K19 : Keep h0 h19 [] := K16.wr W19 (Or.inr sz_b1)
  have N19 := Fr.snoc X19 N16 g_b1
  obtain ⟨cl21, Ar21, q21, Sz21, Nz21, Hs21, Gs21⟩ := id V19
  have hin21 : ¬ ((6 : Int32) < 0 ∨ cl21.slots.size ≤ ((6 : Int32)).toNatClampNeg) := inb_of Sz21 ⟨by decide, by decide⟩
  obtain ⟨T22, h22, X22, e22, W22, st22⟩ := stD X19 hx hZ e19 Ar21 (j := (6 : Int32)) hin21 (g := (mkF m 44 #[.val (.int p0), .unset] [(.double (4696837146684686336 : UInt64)), (.int (6 : Int32)), (.ref b1), (.ref b1)])) rfl rfl (hb hby d2_44)
  have V22 : Arv Z h22 b1 k1 .double (23 : Int32) [(.double (4607182418800017408 : UInt64)), (.double (4621819117588971520 : UInt64)), (.double (4636737291354636288 : UInt64)), (.double (4652007308841189376 : UInt64)), (.double (4666723172467343360 : UInt64)), (.double (4681608360884174848 : UInt64)), (.double (4696837146684686336 : UInt64)), (.double (0 : UInt64)), (.double (0 : UInt64)), (.double (0 : UInt64)), (.double (0 : UInt64)), (.double (0 : UInt64)), (.double (0 : UInt64)), (.double (0 : UInt64)), (.double (0 : UInt64)), (.double (0 : UInt64)), (.double (0 : UInt64)), (.double (0 : UInt64)), (.double (0 : UInt64)), (.double (0 : UInt64)), (.double (0 : UInt64)), (.double (0 : UInt64)), (.double (0 : UInt64))] (.double (0 : UInt64)) := Arv.set Ar21 q21 Sz21 Nz21 Hs21 Gs21 rfl W22 6 rfl (Nat.le_of_ble_eq_true rfl)
  have Z23 : n0 ≤ h22.size := Nat.le_trans Z20 (Keep.of_wr W22).1
  have K22 : Keep h0 h22 [] := K19.wr W22 (Or.inr sz_b1)
  have N22 := Fr.snoc X22 N19 g_b1
  obtain ⟨cl24, Ar24, q24, Sz24, Nz24, Hs24, Gs24⟩ := id V22
  have hin24 : ¬ ((7 : Int32) < 0 ∨ cl24.slots.size ≤ ((7 : Int32)).toNatClampNeg) := inb_of Sz24 ⟨by decide, by decide⟩
  obtain ⟨T25, h25, X25, e25, W25, st25⟩ := stD X22 hx hZ e22 Ar24 (j := (7 : Int32)) hin24 (g := (mkF m 51 #[.val (.int p0), .unset] [(.double (4711630319722168320 : UInt64)), (.int (7 : Int32)), (.ref b1), (.ref b1)])) rfl rfl (hb hby d2_51)
  have V25 : Arv Z h25 b1 k1 .double (23 : Int32) [(.double (4607182418800017408 : UInt64)), (.double (4621819117588971520 : UInt64)), (.double (4636737291354636288 : UInt64)), (.double (4652007308841189376 : UInt64)), (.double (4666723172467343360 : UInt64)), (.double (4681608360884174848 : UInt64)), (.double (4696837146684686336 : UInt64)), (.double (4711630319722168320 : UInt64)), (.double (0 : UInt64)), (.double (0 : UInt64)), (.double (0 : UInt64)), (.double (0 : UInt64)), (.double (0 : UInt64)), (.double (0 : UInt64)), (.double (0 : UInt64)), (.double (0 : UInt64)), (.double (0 : UInt64)), (.double (0 : UInt64)), (.double (0 : UInt64)), (.double (0 : UInt64)), (.double (0 : UInt64)), (.double (0 : UInt64)), (.double (0 : UInt64))] (.double (0 : UInt64)) := Arv.set Ar24 q24 Sz24 Nz24 Hs24 Gs24 rfl W25 7 rfl (Nat.le_of_ble_eq_true rfl)
  have Z26 : n0 ≤ h25.size := Nat.le_trans Z23 (Keep.of_wr W25).1
  have K25 : Keep h0 h25 [] := K22.wr W25 (Or.inr sz_b1)
  have N25 := Fr.snoc X25 N22 g_b1
  obtain ⟨cl27, Ar27, q27, Sz27, Nz27, Hs27, Gs27⟩ := id V25
  have hin27 : ¬ ((8 : Int32) < 0 ∨ cl27.slots.size ≤ ((8 : Int32)).toNatClampNeg) := inb_of Sz27 ⟨by decide, by decide⟩
  obtain ⟨T28, h28, X28, e28, W28, st28⟩ := stD X25 hx hZ e25 Ar27 (j := (8 : Int32)) hin27 (g := (mkF m 58 #[.val (.int p0), .unset] [(.double (4726483295884279808 : UInt64)), (.int (8 : Int32)), (.ref b1), (.ref b1)])) rfl rfl (hb hby d2_58)
  have V28 : Arv Z h28 b1 k1 .double (23 : Int32) [(.double (4607182418800017408 : UInt64)), (.double (4621819117588971520 : UInt64)), (.double (4636737291354636288 : UInt64)), (.double (4652007308841189376 : UInt64)), (.double (4666723172467343360 : UInt64)), (.double (4681608360884174848 : UInt64)), (.double (4696837146684686336 : UInt64)), (.double (4711630319722168320 : UInt64)), (.double (4726483295884279808 : UInt64)), (.double (0 : UInt64)), (.double (0 : UInt64)), (.double (0 : UInt64)), (.double (0 : UInt64)), (.double (0 : UInt64)), (.double (0 : UInt64)), (.double (0 : UInt64)), (.double (0 : UInt64)), (.double (0 : UInt64)), (.double (0 : UInt64)), (.double (0 : UInt64)), (.double (0 : UInt64)), (.double (0 : UInt64)), (.double (0 : UInt64))] (.double (0 : UInt64)) := Arv.set Ar27 q27 Sz27 Nz27 Hs27 Gs27 rfl W28 8 rfl (Nat.le_of_ble_eq_true rfl)
  have Z29 : n0 ≤ h28.size := Nat.le_trans Z26 (Keep.of_wr W28).1
  have K28 : Keep h0 h28 [] := K25.wr W28 (Or.inr sz_b1)
  have N28 := Fr.snoc X28 N25 g_b1
  obtain ⟨cl30, Ar30, q30, Sz30, Nz30, Hs30, Gs30⟩ := id V28
  have hin30 : ¬ ((9 : Int32) < 0 ∨ cl30.slots.size ≤ ((9 : Int32)).toNatClampNeg) := inb_of Sz30 ⟨by decide, by decide⟩
  obtain ⟨T31, h31, X31, e31, W31, st31⟩ := stD X28 hx hZ e28 Ar30 (j := (9 : Int32)) hin30 (g := (mkF m 65 #[.val (.int p0), .unset] [(.double (4741671816366391296 : UInt64)), (.int (9 : Int32)), (.ref b1), (.ref b1)])) rfl rfl (hb hby d2_65)
  have V31 : Arv Z h31 b1 k1 .double (23 : Int32) [(.double (4607182418800017408 : UInt64)), (.double (4621819117588971520 : UInt64)), (.double (4636737291354636288 : UInt64)), (.double (4652007308841189376 : UInt64)), (.double (4666723172467343360 : UInt64)), (.double (4681608360884174848 : UInt64)), (.double (4696837146684686336 : UInt64)), (.double (4711630319722168320 : UInt64)), (.double (4726483295884279808 : UInt64)), (.double (4741671816366391296 : UInt64)), (.double (0 : UInt64)), (.double (0 : UInt64)), (.double (0 : UInt64)), (.double (0 : UInt64)), (.double (0 : UInt64)), (.double (0 : UInt64)), (.double (0 : UInt64)), (.double (0 : UInt64)), (.double (0 : UInt64)), (.double (0 : UInt64)), (.double (0 : UInt64)), (.double (0 : UInt64)), (.double (0 : UInt64))] (.double (0 : UInt64)) := Arv.set Ar30 q30 Sz30 Nz30 Hs30 Gs30 rfl W31 9 rfl (Nat.le_of_ble_eq_true rfl)
  have Z32 : n0 ≤ h31.size := Nat.le_trans Z29 (Keep.of_wr W31).1
  have K31 : Keep h0 h31 [] := K28.wr W31 (Or.inr sz_b1)
  have N31 := Fr.snoc X31 N28 g_b1
  obtain ⟨cl33, Ar33, q33, Sz33, Nz33, Hs33, Gs33⟩ := id V31
  have hin33 : ¬ ((10 : Int32) < 0 ∨ cl33.slots.size ≤ ((10 : Int32)).toNatClampNeg) := inb_of Sz33 ⟨by decide, by decide⟩
  obtain ⟨T34, h34, X34, e34, W34, st34⟩ := stD X31 hx hZ e31 Ar33 (j := (10 : Int32)) hin33 (g := (mkF m 72 #[.val (.int p0), .unset] [(.double (4756540486875873280 : UInt64)), (.int (10 : Int32)), (.ref b1), (.ref b1)])) rfl rfl (hb hby d2_72)
  have V34 : Arv Z h34 b1 k1 .double (23 : Int32) [(.double (4607182418800017408 : UInt64)), (.double (4621819117588971520 : UInt64)), (.double (4636737291354636288 : UInt64)), (.double (4652007308841189376 : UInt64)), (.double (4666723172467343360 : UInt64)), (.double (4681608360884174848 : UInt64)), (.double (4696837146684686336 : UInt64)), (.double (4711630319722168320 : UInt64)), (.double (4726483295884279808 : UInt64)), (.double (4741671816366391296 : UInt64)), (.double (4756540486875873280 : UInt64)), (.double (0 : UInt64)), (.double (0 : UInt64)), (.double (0 : UInt64)), (.double (0 : UInt64)), (.double (0 : UInt64)), (.double (0 : UInt64)), (.double (0 : UInt64)), (.double (0 : UInt64)), (.double (0 : UInt64)), (.double (0 : UInt64)), (.double (0 : UInt64)), (.double (0 : UInt64))] (.double (0 : UInt64)) := Arv.set Ar33 q33 Sz33 Nz33 Hs33 Gs33 rfl W34 10 rfl (Nat.le_of_ble_eq_true rfl)
  have Z35 : n0 ≤ h34.size := Nat.le_trans Z32 (Keep.of_wr W34).1
  have K34 : Keep h0 h34 [] := K31.wr W34 (Or.inr sz_b1)
  have N34 := Fr.snoc X34 N31 g_b1
  obtain ⟨cl36, Ar36, q36, Sz36, Nz36, Hs36, Gs36⟩ := id V34
  have hin36 : ¬ ((11 : Int32) < 0 ∨ cl36.slots.size ≤ ((11 : Int32)).toNatClampNeg) := inb_of Sz36 ⟨by decide, by decide⟩
  obtain ⟨T37, h37, X37, e37, W37, st37⟩ := stD X34 hx hZ e34 Ar36 (j := (11 : Int32)) hin36 (g := (mkF m 79 #[.val (.int p0), .unset] [(.double (4771362005757984768 : UInt64)), (.int (11 : Int32)), (.ref b1), (.ref b1)])) rfl rfl (hb hby d2_79)
  have V37 : Arv Z h37 b1 k1 .double (23 : Int32) [(.double (4607182418800017408 : UInt64)), (.double (4621819117588971520 : UInt64)), (.double (4636737291354636288 : UInt64)), (.double (4652007308841189376 : UInt64)), (.double (4666723172467343360 : UInt64)), (.double (4681608360884174848 : UInt64)), (.double (4696837146684686336 : UInt64)), (.double (4711630319722168320 : UInt64)), (.double (4726483295884279808 : UInt64)), (.double (4741671816366391296 : UInt64)), (.double (4756540486875873280 : UInt64)), (.double (4771362005757984768 : UInt64)), (.double (0 : UInt64)), (.double (0 : UInt64)), (.double (0 : UInt64)), (.double (0 : UInt64)), (.double (0 : UInt64)), (.double (0 : UInt64)), (.double (0 : UInt64)), (.double (0 : UInt64)), (.double (0 : UInt64)), (.double (0 : UInt64)), (.double (0 : UInt64))] (.double (0 : UInt64)) := Arv.set Ar36 q36 Sz36 Nz36 Hs36 Gs36 rfl W37 11 rfl (Nat.le_of_ble_eq_true rfl)
  have Z38 : n0 ≤ h37.size := Nat.le_trans Z35 (Keep.of_wr W37).1
  have K37 : Keep h0 h37 [] := K34.wr W37 (Or.inr sz_b1)
  have N37 := Fr.snoc X37 N34 g_b1
  obtain ⟨cl39, Ar39, q39, Sz39, Nz39, Hs39, Gs39⟩ := id V37
  have hin39 : ¬ ((12 : Int32) < 0 ∨ cl39.slots.size ≤ ((12 : Int32)).toNatClampNeg) := inb_of Sz39 ⟨by decide, by decide⟩
  obtain ⟨T40, h40, X40, e40, W40, st40⟩ := stD X37 hx hZ e37 Ar39 (j := (12 : Int32)) hin39 (g := (mkF m 86 #[.val (.int p0), .unset] [(.double (4786511204640096256 : UInt64)), (.int (12 : Int32)), (.ref b1), (.ref b1)])) rfl rfl (hb hby d2_86)
  have V40 : Arv Z h40 b1 k1 .double (23 : Int32) [(.double (4607182418800017408 : UInt64)), (.double (4621819117588971520 : UInt64)), (.double (4636737291354636288 : UInt64)), (.double (4652007308841189376 : UInt64)), (.double (4666723172467343360 : UInt64)), (.double (4681608360884174848 : UInt64)), (.double (4696837146684686336 : UInt64)), (.double (4711630319722168320 : UInt64)), (.double (4726483295884279808 : UInt64)), (.double (4741671816366391296 : UInt64)), (.double (4756540486875873280 : UInt64)), (.double (4771362005757984768 : UInt64)), (.double (4786511204640096256 : UInt64)), (.double (0 : UInt64)), (.double (0 : UInt64)), (.double (0 : UInt64)), (.double (0 : UInt64)), (.double (0 : UInt64)), (.double (0 : UInt64)), (.double (0 : UInt64)), (.double (0 : UInt64)), (.double (0 : UInt64)), (.double (0 : UInt64))] (.double (0 : UInt64)) := Arv.set Ar39 q39 Sz39 Nz39 Hs39 Gs39 rfl W40 12 rfl (Nat.le_of_ble_eq_true rfl)
  have Z41 : n0 ≤ h40.size := Nat.le_trans Z38 (Keep.of_wr W40).1
  have K40 : Keep h0 h40 [] := K37.wr W40 (Or.inr sz_b1)
  have N40 := Fr.snoc X40 N37 g_b1
  obtain ⟨cl42, Ar42, q42, Sz42, Nz42, Hs42, Gs42⟩ := id V40
  have hin42 : ¬ ((13 : Int32) < 0 ∨ cl42.slots.size ≤ ((13 : Int32)).toNatClampNeg) := inb_of Sz42 ⟨by decide, by decide⟩
  obtain ⟨T43, h43, X43, e43, W43, st43⟩ := stD X40 hx hZ e40 Ar42 (j := (13 : Int32)) hin42 (g := (mkF m 93 #[.val (.int p0), .unset] [(.double (4801453603149578240 : UInt64)), (.int (13 : Int32)), (.ref b1), (.ref b1)])) rfl rfl (hb hby d2_93)
  have V43 : Arv Z h43 b1 k1 .double (23 : Int32) [(.double (4607182418800017408 : UInt64)), (.double (4621819117588971520 : UInt64)), (.double (4636737291354636288 : UInt64)), (.double (4652007308841189376 : UInt64)), (.double (4666723172467343360 : UInt64)), (.double (4681608360884174848 : UInt64)), (.double (4696837146684686336 : UInt64)), (.double (4711630319722168320 : UInt64)), (.double (4726483295884279808 : UInt64)), (.double (4741671816366391296 : UInt64)), (.double (4756540486875873280 : UInt64)), (.double (4771362005757984768 : UInt64)), (.double (4786511204640096256 : UInt64)), (.double (4801453603149578240 : UInt64)), (.double (0 : UInt64)), (.double (0 : UInt64)), (.double (0 : UInt64)), (.double (0 : UInt64)), (.double (0 : UInt64)), (.double (0 : UInt64)), (.double (0 : UInt64)), (.double (0 : UInt64)), (.double (0 : UInt64))] (.double (0 : UInt64)) := Arv.set Ar42 q42 Sz42 Nz42 Hs42 Gs42 rfl W43 13 rfl (Nat.le_of_ble_eq_true rfl)
  have Z44 : n0 ≤ h43.size := Nat.le_trans Z41 (Keep.of_wr W43).1
  have K43 : Keep h0 h43 [] := K40.wr W43 (Or.inr sz_b1)
  have N43 := Fr.snoc X43 N40 g_b1
  obtain ⟨cl45, Ar45, q45, Sz45, Nz45, Hs45, Gs45⟩ := id V43
  have hin45 : ¬ ((14 : Int32) < 0 ∨ cl45.slots.size ≤ ((14 : Int32)).toNatClampNeg) := inb_of Sz45 ⟨by decide, by decide⟩
  obtain ⟨T46, h46, X46, e46, W46, st46⟩ := stD X43 hx hZ e43 Ar45 (j := (14 : Int32)) hin45 (g := (mkF m 100 #[.val (.int p0), .unset] [(.double (4816244402031689728 : UInt64)), (.int (14 : Int32)), (.ref b1), (.ref b1)])) rfl rfl (hb hby d2_100)
  have V46 : Arv Z h46 b1 k1 .double (23 : Int32) [(.double (4607182418800017408 : UInt64)), (.double (4621819117588971520 : UInt64)), (.double (4636737291354636288 : UInt64)), (.double (4652007308841189376 : UInt64)), (.double (4666723172467343360 : UInt64)), (.double (4681608360884174848 : UInt64)), (.double (4696837146684686336 : UInt64)), (.double (4711630319722168320 : UInt64)), (.double (4726483295884279808 : UInt64)), (.double (4741671816366391296 : UInt64)), (.double (4756540486875873280 : UInt64)), (.double (4771362005757984768 : UInt64)), (.double (4786511204640096256 : UInt64)), (.double (4801453603149578240 : UInt64)), (.double (4816244402031689728 : UInt64)), (.double (0 : UInt64)), (.double (0 : UInt64)), (.double (0 : UInt64)), (.double (0 : UInt64)), (.double (0 : UInt64)), (.double (0 : UInt64)), (.double (0 : UInt64)), (.double (0 : UInt64))] (.double (0 : UInt64)) := Arv.set Ar45 q45 Sz45 Nz45 Hs45 Gs45 rfl W46 14 rfl (Nat.le_of_ble_eq_true rfl)
  have Z47 : n0 ≤ h46.size := Nat.le_trans Z44 (Keep.of_wr W46).1
  have K46 : Keep h0 h46 [] := K43.wr W46 (Or.inr sz_b1)
  have N46 := Fr.snoc X46 N43 g_b1
  obtain ⟨cl48, Ar48, q48, Sz48, Nz48, Hs48, Gs48⟩ := id V46
  have hin48 : ¬ ((15 : Int32) < 0 ∨ cl48.slots.size ≤ ((15 : Int32)).toNatClampNeg) := inb_of Sz48 ⟨by decide, by decide⟩
  obtain ⟨T49, h49, X49, e49, W49, st49⟩ := stD X46 hx hZ e46 Ar48 (j := (15 : Int32)) hin48 (g := (mkF m 107 #[.val (.int p0), .unset] [(.double (4831355200913801216 : UInt64)), (.int (15 : Int32)), (.ref b1), (.ref b1)])) rfl rfl (hb hby d2_107)
  have V49 : Arv Z h49 b1 k1 .double (23 : Int32) [(.double (4607182418800017408 : UInt64)), (.double (4621819117588971520 : UInt64)), (.double (4636737291354636288 : UInt64)), (.double (4652007308841189376 : UInt64)), (.double (4666723172467343360 : UInt64)), (.double (4681608360884174848 : UInt64)), (.double (4696837146684686336 : UInt64)), (.double (4711630319722168320 : UInt64)), (.double (4726483295884279808 : UInt64)), (.double (4741671816366391296 : UInt64)), (.double (4756540486875873280 : UInt64)), (.double (4771362005757984768 : UInt64)), (.double (4786511204640096256 : UInt64)), (.double (4801453603149578240 : UInt64)), (.double (4816244402031689728 : UInt64)), (.double (4831355200913801216 : UInt64)), (.double (0 : UInt64)), (.double (0 : UInt64)), (.double (0 : UInt64)), (.double (0 : UInt64)), (.double (0 : UInt64)), (.double (0 : UInt64)), (.double (0 : UInt64))] (.double (0 : UInt64)) := Arv.set Ar48 q48 Sz48 Nz48 Hs48 Gs48 rfl W49 15 rfl (Nat.le_of_ble_eq_true rfl)
  have Z50 : n0 ≤ h49.size := Nat.le_trans Z47 (Keep.of_wr W49).1
  have K49 : Keep h0 h49 [] := K46.wr W49 (Or.inr sz_b1)
  have N49 := Fr.snoc X49 N46 g_b1
  obtain ⟨cl51, Ar51, q51, Sz51, Nz51, Hs51, Gs51⟩ := id V49
  have hin51 : ¬ ((16 : Int32) < 0 ∨ cl51.slots.size ≤ ((16 : Int32)).toNatClampNeg) := inb_of Sz51 ⟨by decide, by decide⟩
  obtain ⟨T52, h52, X52, e52, W52, st52⟩ := stD X49 hx hZ e49 Ar51 (j := (16 : Int32)) hin51 (g := (mkF m 114 #[.val (.int p0), .unset] [(.double (4846369599423283200 : UInt64)), (.int (16 : Int32)), (.ref b1), (.ref b1)])) rfl rfl (hb hby d2_114)
  have V52 : Arv Z h52 b1 k1 .double (23 : Int32) [(.double (4607182418800017408 : UInt64)), (.double (4621819117588971520 : UInt64)), (.double (4636737291354636288 : UInt64)), (.double (4652007308841189376 : UInt64)), (.double (4666723172467343360 : UInt64)), (.double (4681608360884174848 : UInt64)), (.double (4696837146684686336 : UInt64)), (.double (4711630319722168320 : UInt64)), (.double (4726483295884279808 : UInt64)), (.double (4741671816366391296 : UInt64)), (.double (4756540486875873280 : UInt64)), (.double (4771362005757984768 : UInt64)), (.double (4786511204640096256 : UInt64)), (.double (4801453603149578240 : UInt64)), (.double (4816244402031689728 : UInt64)), (.double (4831355200913801216 : UInt64)), (.double (4846369599423283200 : UInt64)), (.double (0 : UInt64)), (.double (0 : UInt64)), (.double (0 : UInt64)), (.double (0 : UInt64)), (.double (0 : UInt64)), (.double (0 : UInt64))] (.double (0 : UInt64)) := Arv.set Ar51 q51 Sz51 Nz51 Hs51 Gs51 rfl W52 16 rfl (Nat.le_of_ble_eq_true rfl)
  have Z53 : n0 ≤ h52.size := Nat.le_trans Z50 (Keep.of_wr W52).1
  have K52 : Keep h0 h52 [] := K49.wr W52 (Or.inr sz_b1)
  have N52 := Fr.snoc X52 N49 g_b1
  obtain ⟨cl54, Ar54, q54, Sz54, Nz54, Hs54, Gs54⟩ := id V52
  have hin54 : ¬ ((17 : Int32) < 0 ∨ cl54.slots.size ≤ ((17 : Int32)).toNatClampNeg) := inb_of Sz54 ⟨by decide, by decide⟩
  obtain ⟨T55, h55, X55, e55, W55, st55⟩ := stD X52 hx hZ e52 Ar54 (j := (17 : Int32)) hin54 (g := (mkF m 121 #[.val (.int p0), .unset] [(.double (4861130398305394688 : UInt64)), (.int (17 : Int32)), (.ref b1), (.ref b1)])) rfl rfl (hb hby d2_121)
  have V55 : Arv Z h55 b1 k1 .double (23 : Int32) [(.double (4607182418800017408 : UInt64)), (.double (4621819117588971520 : UInt64)), (.double (4636737291354636288 : UInt64)), (.double (4652007308841189376 : UInt64)), (.double (4666723172467343360 : UInt64)), (.double (4681608360884174848 : UInt64)), (.double (4696837146684686336 : UInt64)), (.double (4711630319722168320 : UInt64)), (.double (4726483295884279808 : UInt64)), (.double (4741671816366391296 : UInt64)), (.double (4756540486875873280 : UInt64)), (.double (4771362005757984768 : UInt64)), (.double (4786511204640096256 : UInt64)), (.double (4801453603149578240 : UInt64)), (.double (4816244402031689728 : UInt64)), (.double (4831355200913801216 : UInt64)), (.double (4846369599423283200 : UInt64)), (.double (4861130398305394688 : UInt64)), (.double (0 : UInt64)), (.double (0 : UInt64)), (.double (0 : UInt64)), (.double (0 : UInt64)), (.double (0 : UInt64))] (.double (0 : UInt64)) := Arv.set Ar54 q54 Sz54 Nz54 Hs54 Gs54 rfl W55 17 rfl (Nat.le_of_ble_eq_true rfl)
  have Z56 : n0 ≤ h55.size := Nat.le_trans Z53 (Keep.of_wr W55).1
  have K55 : Keep h0 h55 [] := K52.wr W55 (Or.inr sz_b1)
  have N55 := Fr.snoc X55 N52 g_b1
  obtain ⟨cl57, Ar57, q57, Sz57, Nz57, Hs57, Gs57⟩ := id V55
  have hin57 : ¬ ((18 : Int32) < 0 ∨ cl57.slots.size ≤ ((18 : Int32)).toNatClampNeg) := inb_of Sz57 ⟨by decide, by decide⟩
  obtain ⟨T58, h58, X58, e58, W58, st58⟩ := stD X55 hx hZ e55 Ar57 (j := (18 : Int32)) hin57 (g := (mkF m 128 #[.val (.int p0), .unset] [(.double (4876203697187506176 : UInt64)), (.int (18 : Int32)), (.ref b1), (.ref b1)])) rfl rfl (hb hby d2_128)
  have V58 : Arv Z h58 b1 k1 .double (23 : Int32) [(.double (4607182418800017408 : UInt64)), (.double (4621819117588971520 : UInt64)), (.double (4636737291354636288 : UInt64)), (.double (4652007308841189376 : UInt64)), (.double (4666723172467343360 : UInt64)), (.double (4681608360884174848 : UInt64)), (.double (4696837146684686336 : UInt64)), (.double (4711630319722168320 : UInt64)), (.double (4726483295884279808 : UInt64)), (.double (4741671816366391296 : UInt64)), (.double (4756540486875873280 : UInt64)), (.double (4771362005757984768 : UInt64)), (.double (4786511204640096256 : UInt64)), (.double (4801453603149578240 : UInt64)), (.double (4816244402031689728 : UInt64)), (.double (4831355200913801216 : UInt64)), (.double (4846369599423283200 : UInt64)), (.double (4861130398305394688 : UInt64)), (.double (4876203697187506176 : UInt64)), (.double (0 : UInt64)), (.double (0 : UInt64)), (.double (0 : UInt64)), (.double (0 : UInt64))] (.double (0 : UInt64)) := Arv.set Ar57 q57 Sz57 Nz57 Hs57 Gs57 rfl W58 18 rfl (Nat.le_of_ble_eq_true rfl)
  have Z59 : n0 ≤ h58.size := Nat.le_trans Z56 (Keep.of_wr W58).1
  have K58 : Keep h0 h58 [] := K55.wr W58 (Or.inr sz_b1)
  have N58 := Fr.snoc X58 N55 g_b1
  obtain ⟨cl60, Ar60, q60, Sz60, Nz60, Hs60, Gs60⟩ := id V58
  have hin60 : ¬ ((19 : Int32) < 0 ∨ cl60.slots.size ≤ ((19 : Int32)).toNatClampNeg) := inb_of Sz60 ⟨by decide, by decide⟩
  obtain ⟨T61, h61, X61, e61, W61, st61⟩ := stD X58 hx hZ e58 Ar60 (j := (19 : Int32)) hin60 (g := (mkF m 135 #[.val (.int p0), .unset] [(.double (4891288408196988160 : UInt64)), (.int (19 : Int32)), (.ref b1), (.ref b1)])) rfl rfl (hb hby d2_135)
  have V61 : Arv Z h61 b1 k1 .double (23 : Int32) [(.double (4607182418800017408 : UInt64)), (.double (4621819117588971520 : UInt64)), (.double (4636737291354636288 : UInt64)), (.double (4652007308841189376 : UInt64)), (.double (4666723172467343360 : UInt64)), (.double (4681608360884174848 : UInt64)), (.double (4696837146684686336 : UInt64)), (.double (4711630319722168320 : UInt64)), (.double (4726483295884279808 : UInt64)), (.double (4741671816366391296 : UInt64)), (.double (4756540486875873280 : UInt64)), (.double (4771362005757984768 : UInt64)), (.double (4786511204640096256 : UInt64)), (.double (4801453603149578240 : UInt64)), (.double (4816244402031689728 : UInt64)), (.double (4831355200913801216 : UInt64)), (.double (4846369599423283200 : UInt64)), (.double (4861130398305394688 : UInt64)), (.double (4876203697187506176 : UInt64)), (.double (4891288408196988160 : UInt64)), (.double (0 : UInt64)), (.double (0 : UInt64)), (.double (0 : UInt64))] (.double (0 : UInt64)) := Arv.set Ar60 q60 Sz60 Nz60 Hs60 Gs60 rfl W61 19 rfl (Nat.le_of_ble_eq_true rfl)
  have Z62 : n0 ≤ h61.size := Nat.le_trans Z59 (Keep.of_wr W61).1
  have K61 : Keep h0 h61 [] := K58.wr W61 (Or.inr sz_b1)
  have N61 := Fr.snoc X61 N58 g_b1
  obtain ⟨cl63, Ar63, q63, Sz63, Nz63, Hs63, Gs63⟩ := id V61
  have hin63 : ¬ ((20 : Int32) < 0 ∨ cl63.slots.size ≤ ((20 : Int32)).toNatClampNeg) := inb_of Sz63 ⟨by decide, by decide⟩
  obtain ⟨T64, h64, X64, e64, W64, st64⟩ := stD X61 hx hZ e61 Ar63 (j := (20 : Int32)) hin63 (g := (mkF m 142 #[.val (.int p0), .unset] [(.double (4906019910204099648 : UInt64)), (.int (20 : Int32)), (.ref b1), (.ref b1)])) rfl rfl (hb hby d2_142)
  have V64 : Arv Z h64 b1 k1 .double (23 : Int32) [(.double (4607182418800017408 : UInt64)), (.double (4621819117588971520 : UInt64)), (.double (4636737291354636288 : UInt64)), (.double (4652007308841189376 : UInt64)), (.double (4666723172467343360 : UInt64)), (.double (4681608360884174848 : UInt64)), (.double (4696837146684686336 : UInt64)), (.double (4711630319722168320 : UInt64)), (.double (4726483295884279808 : UInt64)), (.double (4741671816366391296 : UInt64)), (.double (4756540486875873280 : UInt64)), (.double (4771362005757984768 : UInt64)), (.double (4786511204640096256 : UInt64)), (.double (4801453603149578240 : UInt64)), (.double (4816244402031689728 : UInt64)), (.double (4831355200913801216 : UInt64)), (.double (4846369599423283200 : UInt64)), (.double (4861130398305394688 : UInt64)), (.double (4876203697187506176 : UInt64)), (.double (4891288408196988160 : UInt64)), (.double (4906019910204099648 : UInt64)), (.double (0 : UInt64)), (.double (0 : UInt64))] (.double (0 : UInt64)) := Arv.set Ar63 q63 Sz63 Nz63 Hs63 Gs63 rfl W64 20 rfl (Nat.le_of_ble_eq_true rfl)
  have Z65 : n0 ≤ h64.size := Nat.le_trans Z62 (Keep.of_wr W64).1
  have K64 : Keep h0 h64 [] := K61.wr W64 (Or.inr sz_b1)
  have N64 := Fr.snoc X64 N61 g_b1
  obtain ⟨cl66, Ar66, q66, Sz66, Nz66, Hs66, Gs66⟩ := id V64
  have hin66 : ¬ ((21 : Int32) < 0 ∨ cl66.slots.size ≤ ((21 : Int32)).toNatClampNeg) := inb_of Sz66 ⟨by decide, by decide⟩
  obtain ⟨T67, h67, X67, e67, W67, st67⟩ := stD X64 hx hZ e64 Ar66 (j := (21 : Int32)) hin66 (g := (mkF m 149 #[.val (.int p0), .unset] [(.double (4921056587992461136 : UInt64)), (.int (21 : Int32)), (.ref b1), (.ref b1)])) rfl rfl (hb hby d2_149)
  have V67 : Arv Z h67 b1 k1 .double (23 : Int32) [(.double (4607182418800017408 : UInt64)), (.double (4621819117588971520 : UInt64)), (.double (4636737291354636288 : UInt64)), (.double (4652007308841189376 : UInt64)), (.double (4666723172467343360 : UInt64)), (.double (4681608360884174848 : UInt64)), (.double (4696837146684686336 : UInt64)), (.double (4711630319722168320 : UInt64)), (.double (4726483295884279808 : UInt64)), (.double (4741671816366391296 : UInt64)), (.double (4756540486875873280 : UInt64)), (.double (4771362005757984768 : UInt64)), (.double (4786511204640096256 : UInt64)), (.double (4801453603149578240 : UInt64)), (.double (4816244402031689728 : UInt64)), (.double (4831355200913801216 : UInt64)), (.double (4846369599423283200 : UInt64)), (.double (4861130398305394688 : UInt64)), (.double (4876203697187506176 : UInt64)), (.double (4891288408196988160 : UInt64)), (.double (4906019910204099648 : UInt64)), (.double (4921056587992461136 : UInt64)), (.double (0 : UInt64))] (.double (0 : UInt64)) := Arv.set Ar66 q66 Sz66 Nz66 Hs66 Gs66 rfl W67 21 rfl (Nat.le_of_ble_eq_true rfl)
  have Z68 : n0 ≤ h67.size := Nat.le_trans Z65 (Keep.of_wr W67).1
  have K67 : Keep h0 h67 [] := K64.wr W67 (Or.inr sz_b1)
  have N67 := Fr.snoc X67 N64 g_b1
  obtain ⟨cl69, Ar69, q69, Sz69, Nz69, Hs69, Gs69⟩ := id V67
  have hin69 : ¬ ((22 : Int32) < 0 ∨ cl69.slots.size ≤ ((22 : Int32)).toNatClampNeg) := inb_of Sz69 ⟨by decide, by decide⟩
  obtain ⟨T70, h70, X70, e70, W70, st70⟩ := stD X67 hx hZ e67 Ar69 (j := (22 : Int32)) hin69 (g := (mkF m 156 #[.val (.int p0), .unset] [(.double (4936209963552724370 : UInt64)), (.int (22 : Int32)), (.ref b1), (.ref b1)])) rfl rfl (hb hby d2_156)
  have V70 : Arv Z h70 b1 k1 .double (23 : Int32) [(.double (4607182418800017408 : UInt64)), (.double (4621819117588971520 : UInt64)), (.double (4636737291354636288 : UInt64)), (.double (4652007308841189376 : UInt64)), (.double (4666723172467343360 : UInt64)), (.double (4681608360884174848 : UInt64)), (.double (4696837146684686336 : UInt64)), (.double (4711630319722168320 : UInt64)), (.double (4726483295884279808 : UInt64)), (.double (4741671816366391296 : UInt64)), (.double (4756540486875873280 : UInt64)), (.double (4771362005757984768 : UInt64)), (.double (4786511204640096256 : UInt64)), (.double (4801453603149578240 : UInt64)), (.double (4816244402031689728 : UInt64)), (.double (4831355200913801216 : UInt64)), (.double (4846369599423283200 : UInt64)), (.double (4861130398305394688 : UInt64)), (.double (4876203697187506176 : UInt64)), (.double (4891288408196988160 : UInt64)), (.double (4906019910204099648 : UInt64)), (.double (4921056587992461136 : UInt64)), (.double (4936209963552724370 : UInt64))] (.double (0 : UInt64)) := Arv.set Ar69 q69 Sz69 Nz69 Hs69 Gs69 rfl W70 22 rfl (Nat.le_of_ble_eq_true rfl)
  have Z71 : n0 ≤ h70.size := Nat.le_trans Z68 (Keep.of_wr W70).1
  have K70 : Keep h0 h70 [] := K67.wr W70 (Or.inr sz_b1)
  have N70 := Fr.snoc X70 N67 g_b1
  obtain ⟨cl72, Ar72, -, Sz72, Nz72, Hs72, Gs72⟩ := id V70
  have hin72 : ¬ (p0 < 0 ∨ cl72.slots.size ≤ (p0).toNatClampNeg) := inb_of Sz72 hk
  have hat72 : cl72.slots[(p0).toNatClampNeg]? = some (.double (own_pw p0)) := Hs72.at hin72 (own_at _)
  have pre73 : ∀ t, Steps p.tables e below (T70.setTop (mkF m 161 #[.val (.int p0), .val (.ref b1)] [(.double (own_pw p0))])) t → Steps p.tables e below (s₁.setTop (entryFrame m #[(.int p0)] 2)) t := fun t k => by
    refine pre0 t ?_
    show Steps p.tables e below (s₁.setTop (mkF m 0 #[.val (.int p0), .unset] [])) _
    refine XS.bipush X0.here hx rfl (hb hby d2_0) ?_
    show Steps p.tables e below (s₁.setTop (mkF m 2 #[.val (.int p0), .unset] [(.int (23 : Int32))])) _
    refine st1 _ ?_
    show Steps p.tables e below (T1.setTop (mkF m 4 #[.val (.int p0), .unset] [(.ref b1)])) _
    refine XS.dup X1.here hx rfl (hb hby d2_4) rfl rfl ?_
    show Steps p.tables e below (T1.setTop (mkF m 5 #[.val (.int p0), .unset] [(.ref b1), (.ref b1)])) _
    refine XS.iconst X1.here hx rfl (hb hby d2_5) ?_
    show Steps p.tables e below (T1.setTop (mkF m 6 #[.val (.int p0), .unset] [(.int (0 : Int32)), (.ref b1), (.ref b1)])) _
    refine XS.dconst1 X1.here hx rfl (hb hby d2_6) (v := (4607182418800017408 : UInt64)) (by decide +kernel) ?_
    show Steps p.tables e below (T1.setTop (mkF m 7 #[.val (.int p0), .unset] [(.double (4607182418800017408 : UInt64)), (.int (0 : Int32)), (.ref b1), (.ref b1)])) _
    refine st4 _ ?_
    show Steps p.tables e below (T4.setTop (mkF m 8 #[.val (.int p0), .unset] [(.ref b1)])) _
    refine XS.dup X4.here hx rfl (hb hby d2_8) rfl rfl ?_
    show Steps p.tables e below (T4.setTop (mkF m 9 #[.val (.int p0), .unset] [(.ref b1), (.ref b1)])) _
    refine XS.iconst X4.here hx rfl (hb hby d2_9) ?_
    show Steps p.tables e below (T4.setTop (mkF m 10 #[.val (.int p0), .unset] [(.int (1 : Int32)), (.ref b1), (.ref b1)])) _
    refine X4.ldc2DoubleC hx hown (mvT hZ (hw _ (List.mem_of_getElem? (i := 14) rfl))) (g := (mkF m 10 #[.val (.int p0), .unset] [(.int (1 : Int32)), (.ref b1), (.ref b1)])) rfl (hb hby d2_10) _ ?_
    show Steps p.tables e below (T4.setTop (mkF m 13 #[.val (.int p0), .unset] [(.double (4621819117588971520 : UInt64)), (.int (1 : Int32)), (.ref b1), (.ref b1)])) _
    refine st7 _ ?_
    show Steps p.tables e below (T7.setTop (mkF m 14 #[.val (.int p0), .unset] [(.ref b1)])) _
    refine XS.dup X7.here hx rfl (hb hby d2_14) rfl rfl ?_
    show Steps p.tables e below (T7.setTop (mkF m 15 #[.val (.int p0), .unset] [(.ref b1), (.ref b1)])) _
    refine XS.iconst X7.here hx rfl (hb hby d2_15) ?_
    show Steps p.tables e below (T7.setTop (mkF m 16 #[.val (.int p0), .unset] [(.int (2 : Int32)), (.ref b1), (.ref b1)])) _
    refine X7.ldc2DoubleC hx hown (mvT hZ (hw _ (List.mem_of_getElem? (i := 15) rfl))) (g := (mkF m 16 #[.val (.int p0), .unset] [(.int (2 : Int32)), (.ref b1), (.ref b1)])) rfl (hb hby d2_16) _ ?_
    show Steps p.tables e below (T7.setTop (mkF m 19 #[.val (.int p0), .unset] [(.double (4636737291354636288 : UInt64)), (.int (2 : Int32)), (.ref b1), (.ref b1)])) _
    refine st10 _ ?_
    show Steps p.tables e below (T10.setTop (mkF m 20 #[.val (.int p0), .unset] [(.ref b1)])) _
    refine XS.dup X10.here hx rfl (hb hby d2_20) rfl rfl ?_
    show Steps p.tables e below (T10.setTop (mkF m 21 #[.val (.int p0), .unset] [(.ref b1), (.ref b1)])) _
    refine XS.iconst X10.here hx rfl (hb hby d2_21) ?_
    show Steps p.tables e below (T10.setTop (mkF m 22 #[.val (.int p0), .unset] [(.int (3 : Int32)), (.ref b1), (.ref b1)])) _
    refine X10.ldc2DoubleC hx hown (mvT hZ (hw _ (List.mem_of_getElem? (i := 16) rfl))) (g := (mkF m 22 #[.val (.int p0), .unset] [(.int (3 : Int32)), (.ref b1), (.ref b1)])) rfl (hb hby d2_22) _ ?_
    show Steps p.tables e below (T10.setTop (mkF m 25 #[.val (.int p0), .unset] [(.double (4652007308841189376 : UInt64)), (.int (3 : Int32)), (.ref b1), (.ref b1)])) _
    refine st13 _ ?_
    show Steps p.tables e below (T13.setTop (mkF m 26 #[.val (.int p0), .unset] [(.ref b1)])) _
    refine XS.dup X13.here hx rfl (hb hby d2_26) rfl rfl ?_
    show Steps p.tables e below (T13.setTop (mkF m 27 #[.val (.int p0), .unset] [(.ref b1), (.ref b1)])) _
    refine XS.iconst X13.here hx rfl (hb hby d2_27) ?_
    show Steps p.tables e below (T13.setTop (mkF m 28 #[.val (.int p0), .unset] [(.int (4 : Int32)), (.ref b1), (.ref b1)])) _
    refine X13.ldc2DoubleC hx hown (mvT hZ (hw _ (List.mem_of_getElem? (i := 17) rfl))) (g := (mkF m 28 #[.val (.int p0), .unset] [(.int (4 : Int32)), (.ref b1), (.ref b1)])) rfl (hb hby d2_28) _ ?_
    show Steps p.tables e below (T13.setTop (mkF m 31 #[.val (.int p0), .unset] [(.double (4666723172467343360 : UInt64)), (.int (4 : Int32)), (.ref b1), (.ref b1)])) _
    refine st16 _ ?_
    show Steps p.tables e below (T16.setTop (mkF m 32 #[.val (.int p0), .unset] [(.ref b1)])) _
    refine XS.dup X16.here hx rfl (hb hby d2_32) rfl rfl ?_
    show Steps p.tables e below (T16.setTop (mkF m 33 #[.val (.int p0), .unset] [(.ref b1), (.ref b1)])) _
    refine XS.iconst X16.here hx rfl (hb hby d2_33) ?_
    show Steps p.tables e below (T16.setTop (mkF m 34 #[.val (.int p0), .unset] [(.int (5 : Int32)), (.ref b1), (.ref b1)])) _
    refine X16.ldc2DoubleC hx hown (mvT hZ (hw _ (List.mem_of_getElem? (i := 18) rfl))) (g := (mkF m 34 #[.val (.int p0), .unset] [(.int (5 : Int32)), (.ref b1), (.ref b1)])) rfl (hb hby d2_34) _ ?_
    show Steps p.tables e below (T16.setTop (mkF m 37 #[.val (.int p0), .unset] [(.double (4681608360884174848 : UInt64)), (.int (5 : Int32)), (.ref b1), (.ref b1)])) _
    refine st19 _ ?_
    show Steps p.tables e below (T19.setTop (mkF m 38 #[.val (.int p0), .unset] [(.ref b1)])) _
    refine XS.dup X19.here hx rfl (hb hby d2_38) rfl rfl ?_
    show Steps p.tables e below (T19.setTop (mkF m 39 #[.val (.int p0), .unset] [(.ref b1), (.ref b1)])) _
    refine XS.bipush X19.here hx rfl (hb hby d2_39) ?_
    show Steps p.tables e below (T19.setTop (mkF m 41 #[.val (.int p0), .unset] [(.int (6 : Int32)), (.ref b1), (.ref b1)])) _
    refine X19.ldc2DoubleC hx hown (mvT hZ (hw _ (List.mem_of_getElem? (i := 19) rfl))) (g := (mkF m 41 #[.val (.int p0), .unset] [(.int (6 : Int32)), (.ref b1), (.ref b1)])) rfl (hb hby d2_41) _ ?_
    show Steps p.tables e below (T19.setTop (mkF m 44 #[.val (.int p0), .unset] [(.double (4696837146684686336 : UInt64)), (.int (6 : Int32)), (.ref b1), (.ref b1)])) _
    refine st22 _ ?_
    show Steps p.tables e below (T22.setTop (mkF m 45 #[.val (.int p0), .unset] [(.ref b1)])) _
    refine XS.dup X22.here hx rfl (hb hby d2_45) rfl rfl ?_
    show Steps p.tables e below (T22.setTop (mkF m 46 #[.val (.int p0), .unset] [(.ref b1), (.ref b1)])) _
    refine XS.bipush X22.here hx rfl (hb hby d2_46) ?_
    show Steps p.tables e below (T22.setTop (mkF m 48 #[.val (.int p0), .unset] [(.int (7 : Int32)), (.ref b1), (.ref b1)])) _
    refine X22.ldc2DoubleC hx hown (mvT hZ (hw _ (List.mem_of_getElem? (i := 20) rfl))) (g := (mkF m 48 #[.val (.int p0), .unset] [(.int (7 : Int32)), (.ref b1), (.ref b1)])) rfl (hb hby d2_48) _ ?_
    show Steps p.tables e below (T22.setTop (mkF m 51 #[.val (.int p0), .unset] [(.double (4711630319722168320 : UInt64)), (.int (7 : Int32)), (.ref b1), (.ref b1)])) _
    refine st25 _ ?_
    show Steps p.tables e below (T25.setTop (mkF m 52 #[.val (.int p0), .unset] [(.ref b1)])) _
    refine XS.dup X25.here hx rfl (hb hby d2_52) rfl rfl ?_
    show Steps p.tables e below (T25.setTop (mkF m 53 #[.val (.int p0), .unset] [(.ref b1), (.ref b1)])) _
    refine XS.bipush X25.here hx rfl (hb hby d2_53) ?_
    show Steps p.tables e below (T25.setTop (mkF m 55 #[.val (.int p0), .unset] [(.int (8 : Int32)), (.ref b1), (.ref b1)])) _
    refine X25.ldc2DoubleC hx hown (mvT hZ (hw _ (List.mem_of_getElem? (i := 21) rfl))) (g := (mkF m 55 #[.val (.int p0), .unset] [(.int (8 : Int32)), (.ref b1), (.ref b1)])) rfl (hb hby d2_55) _ ?_
    show Steps p.tables e below (T25.setTop (mkF m 58 #[.val (.int p0), .unset] [(.double (4726483295884279808 : UInt64)), (.int (8 : Int32)), (.ref b1), (.ref b1)])) _
    refine st28 _ ?_
    show Steps p.tables e below (T28.setTop (mkF m 59 #[.val (.int p0), .unset] [(.ref b1)])) _
    refine XS.dup X28.here hx rfl (hb hby d2_59) rfl rfl ?_
    show Steps p.tables e below (T28.setTop (mkF m 60 #[.val (.int p0), .unset] [(.ref b1), (.ref b1)])) _
    refine XS.bipush X28.here hx rfl (hb hby d2_60) ?_
    show Steps p.tables e below (T28.setTop (mkF m 62 #[.val (.int p0), .unset] [(.int (9 : Int32)), (.ref b1), (.ref b1)])) _
    refine X28.ldc2DoubleC hx hown (mvT hZ (hw _ (List.mem_of_getElem? (i := 22) rfl))) (g := (mkF m 62 #[.val (.int p0), .unset] [(.int (9 : Int32)), (.ref b1), (.ref b1)])) rfl (hb hby d2_62) _ ?_
    show Steps p.tables e below (T28.setTop (mkF m 65 #[.val (.int p0), .unset] [(.double (4741671816366391296 : UInt64)), (.int (9 : Int32)), (.ref b1), (.ref b1)])) _
    refine st31 _ ?_
    show Steps p.tables e below (T31.setTop (mkF m 66 #[.val (.int p0), .unset] [(.ref b1)])) _
    refine XS.dup X31.here hx rfl (hb hby d2_66) rfl rfl ?_
    show Steps p.tables e below (T31.setTop (mkF m 67 #[.val (.int p0), .unset] [(.ref b1), (.ref b1)])) _
    refine XS.bipush X31.here hx rfl (hb hby d2_67) ?_
    show Steps p.tables e below (T31.setTop (mkF m 69 #[.val (.int p0), .unset] [(.int (10 : Int32)), (.ref b1), (.ref b1)])) _
    refine X31.ldc2DoubleC hx hown (mvT hZ (hw _ (List.mem_of_getElem? (i := 23) rfl))) (g := (mkF m 69 #[.val (.int p0), .unset] [(.int (10 : Int32)), (.ref b1), (.ref b1)])) rfl (hb hby d2_69) _ ?_
    show Steps p.tables e below (T31.setTop (mkF m 72 #[.val (.int p0), .unset] [(.double (4756540486875873280 : UInt64)), (.int (10 : Int32)), (.ref b1), (.ref b1)])) _
    refine st34 _ ?_
    show Steps p.tables e below (T34.setTop (mkF m 73 #[.val (.int p0), .unset] [(.ref b1)])) _
    refine XS.dup X34.here hx rfl (hb hby d2_73) rfl rfl ?_
    show Steps p.tables e below (T34.setTop (mkF m 74 #[.val (.int p0), .unset] [(.ref b1), (.ref b1)])) _
    refine XS.bipush X34.here hx rfl (hb hby d2_74) ?_
    show Steps p.tables e below (T34.setTop (mkF m 76 #[.val (.int p0), .unset] [(.int (11 : Int32)), (.ref b1), (.ref b1)])) _
    refine X34.ldc2DoubleC hx hown (mvT hZ (hw _ (List.mem_of_getElem? (i := 24) rfl))) (g := (mkF m 76 #[.val (.int p0), .unset] [(.int (11 : Int32)), (.ref b1), (.ref b1)])) rfl (hb hby d2_76) _ ?_
    show Steps p.tables e below (T34.setTop (mkF m 79 #[.val (.int p0), .unset] [(.double (4771362005757984768 : UInt64)), (.int (11 : Int32)), (.ref b1), (.ref b1)])) _
    refine st37 _ ?_
    show Steps p.tables e below (T37.setTop (mkF m 80 #[.val (.int p0), .unset] [(.ref b1)])) _
    refine XS.dup X37.here hx rfl (hb hby d2_80) rfl rfl ?_
    show Steps p.tables e below (T37.setTop (mkF m 81 #[.val (.int p0), .unset] [(.ref b1), (.ref b1)])) _
    refine XS.bipush X37.here hx rfl (hb hby d2_81) ?_
    show Steps p.tables e below (T37.setTop (mkF m 83 #[.val (.int p0), .unset] [(.int (12 : Int32)), (.ref b1), (.ref b1)])) _
    refine X37.ldc2DoubleC hx hown (mvT hZ (hw _ (List.mem_of_getElem? (i := 25) rfl))) (g := (mkF m 83 #[.val (.int p0), .unset] [(.int (12 : Int32)), (.ref b1), (.ref b1)])) rfl (hb hby d2_83) _ ?_
    show Steps p.tables e below (T37.setTop (mkF m 86 #[.val (.int p0), .unset] [(.double (4786511204640096256 : UInt64)), (.int (12 : Int32)), (.ref b1), (.ref b1)])) _
    refine st40 _ ?_
    show Steps p.tables e below (T40.setTop (mkF m 87 #[.val (.int p0), .unset] [(.ref b1)])) _
    refine XS.dup X40.here hx rfl (hb hby d2_87) rfl rfl ?_
    show Steps p.tables e below (T40.setTop (mkF m 88 #[.val (.int p0), .unset] [(.ref b1), (.ref b1)])) _
    refine XS.bipush X40.here hx rfl (hb hby d2_88) ?_
    show Steps p.tables e below (T40.setTop (mkF m 90 #[.val (.int p0), .unset] [(.int (13 : Int32)), (.ref b1), (.ref b1)])) _
    refine X40.ldc2DoubleC hx hown (mvT hZ (hw _ (List.mem_of_getElem? (i := 26) rfl))) (g := (mkF m 90 #[.val (.int p0), .unset] [(.int (13 : Int32)), (.ref b1), (.ref b1)])) rfl (hb hby d2_90) _ ?_
    show Steps p.tables e below (T40.setTop (mkF m 93 #[.val (.int p0), .unset] [(.double (4801453603149578240 : UInt64)), (.int (13 : Int32)), (.ref b1), (.ref b1)])) _
    refine st43 _ ?_
    show Steps p.tables e below (T43.setTop (mkF m 94 #[.val (.int p0), .unset] [(.ref b1)])) _
    refine XS.dup X43.here hx rfl (hb hby d2_94) rfl rfl ?_
    show Steps p.tables e below (T43.setTop (mkF m 95 #[.val (.int p0), .unset] [(.ref b1), (.ref b1)])) _
    refine XS.bipush X43.here hx rfl (hb hby d2_95) ?_
    show Steps p.tables e below (T43.setTop (mkF m 97 #[.val (.int p0), .unset] [(.int (14 : Int32)), (.ref b1), (.ref b1)])) _
    refine X43.ldc2DoubleC hx hown (mvT hZ (hw _ (List.mem_of_getElem? (i := 27) rfl))) (g := (mkF m 97 #[.val (.int p0), .unset] [(.int (14 : Int32)), (.ref b1), (.ref b1)])) rfl (hb hby d2_97) _ ?_
    show Steps p.tables e below (T43.setTop (mkF m 100 #[.val (.int p0), .unset] [(.double (4816244402031689728 : UInt64)), (.int (14 : Int32)), (.ref b1), (.ref b1)])) _
    refine st46 _ ?_
    show Steps p.tables e below (T46.setTop (mkF m 101 #[.val (.int p0), .unset] [(.ref b1)])) _
    refine XS.dup X46.here hx rfl (hb hby d2_101) rfl rfl ?_
    show Steps p.tables e below (T46.setTop (mkF m 102 #[.val (.int p0), .unset] [(.ref b1), (.ref b1)])) _
    refine XS.bipush X46.here hx rfl (hb hby d2_102) ?_
    show Steps p.tables e below (T46.setTop (mkF m 104 #[.val (.int p0), .unset] [(.int (15 : Int32)), (.ref b1), (.ref b1)])) _
    refine X46.ldc2DoubleC hx hown (mvT hZ (hw _ (List.mem_of_getElem? (i := 28) rfl))) (g := (mkF m 104 #[.val (.int p0), .unset] [(.int (15 : Int32)), (.ref b1), (.ref b1)])) rfl (hb hby d2_104) _ ?_
    show Steps p.tables e below (T46.setTop (mkF m 107 #[.val (.int p0), .unset] [(.double (4831355200913801216 : UInt64)), (.int (15 : Int32)), (.ref b1), (.ref b1)])) _
    refine st49 _ ?_
    show Steps p.tables e below (T49.setTop (mkF m 108 #[.val (.int p0), .unset] [(.ref b1)])) _
    refine XS.dup X49.here hx rfl (hb hby d2_108) rfl rfl ?_
    show Steps p.tables e below (T49.setTop (mkF m 109 #[.val (.int p0), .unset] [(.ref b1), (.ref b1)])) _
    refine XS.bipush X49.here hx rfl (hb hby d2_109) ?_
    show Steps p.tables e below (T49.setTop (mkF m 111 #[.val (.int p0), .unset] [(.int (16 : Int32)), (.ref b1), (.ref b1)])) _
    refine X49.ldc2DoubleC hx hown (mvT hZ (hw _ (List.mem_of_getElem? (i := 29) rfl))) (g := (mkF m 111 #[.val (.int p0), .unset] [(.int (16 : Int32)), (.ref b1), (.ref b1)])) rfl (hb hby d2_111) _ ?_
    show Steps p.tables e below (T49.setTop (mkF m 114 #[.val (.int p0), .unset] [(.double (4846369599423283200 : UInt64)), (.int (16 : Int32)), (.ref b1), (.ref b1)])) _
    refine st52 _ ?_
    show Steps p.tables e below (T52.setTop (mkF m 115 #[.val (.int p0), .unset] [(.ref b1)])) _
    refine XS.dup X52.here hx rfl (hb hby d2_115) rfl rfl ?_
    show Steps p.tables e below (T52.setTop (mkF m 116 #[.val (.int p0), .unset] [(.ref b1), (.ref b1)])) _
    refine XS.bipush X52.here hx rfl (hb hby d2_116) ?_
    show Steps p.tables e below (T52.setTop (mkF m 118 #[.val (.int p0), .unset] [(.int (17 : Int32)), (.ref b1), (.ref b1)])) _
    refine X52.ldc2DoubleC hx hown (mvT hZ (hw _ (List.mem_of_getElem? (i := 30) rfl))) (g := (mkF m 118 #[.val (.int p0), .unset] [(.int (17 : Int32)), (.ref b1), (.ref b1)])) rfl (hb hby d2_118) _ ?_
    show Steps p.tables e below (T52.setTop (mkF m 121 #[.val (.int p0), .unset] [(.double (4861130398305394688 : UInt64)), (.int (17 : Int32)), (.ref b1), (.ref b1)])) _
    refine st55 _ ?_
    show Steps p.tables e below (T55.setTop (mkF m 122 #[.val (.int p0), .unset] [(.ref b1)])) _
    refine XS.dup X55.here hx rfl (hb hby d2_122) rfl rfl ?_
    show Steps p.tables e below (T55.setTop (mkF m 123 #[.val (.int p0), .unset] [(.ref b1), (.ref b1)])) _
    refine XS.bipush X55.here hx rfl (hb hby d2_123) ?_
    show Steps p.tables e below (T55.setTop (mkF m 125 #[.val (.int p0), .unset] [(.int (18 : Int32)), (.ref b1), (.ref b1)])) _
    refine X55.ldc2DoubleC hx hown (mvT hZ (hw _ (List.mem_of_getElem? (i := 31) rfl))) (g := (mkF m 125 #[.val (.int p0), .unset] [(.int (18 : Int32)), (.ref b1), (.ref b1)])) rfl (hb hby d2_125) _ ?_
    show Steps p.tables e below (T55.setTop (mkF m 128 #[.val (.int p0), .unset] [(.double (4876203697187506176 : UInt64)), (.int (18 : Int32)), (.ref b1), (.ref b1)])) _
    refine st58 _ ?_
    show Steps p.tables e below (T58.setTop (mkF m 129 #[.val (.int p0), .unset] [(.ref b1)])) _
    refine XS.dup X58.here hx rfl (hb hby d2_129) rfl rfl ?_
    show Steps p.tables e below (T58.setTop (mkF m 130 #[.val (.int p0), .unset] [(.ref b1), (.ref b1)])) _
    refine XS.bipush X58.here hx rfl (hb hby d2_130) ?_
    show Steps p.tables e below (T58.setTop (mkF m 132 #[.val (.int p0), .unset] [(.int (19 : Int32)), (.ref b1), (.ref b1)])) _
    refine X58.ldc2DoubleC hx hown (mvT hZ (hw _ (List.mem_of_getElem? (i := 32) rfl))) (g := (mkF m 132 #[.val (.int p0), .unset] [(.int (19 : Int32)), (.ref b1), (.ref b1)])) rfl (hb hby d2_132) _ ?_
    show Steps p.tables e below (T58.setTop (mkF m 135 #[.val (.int p0), .unset] [(.double (4891288408196988160 : UInt64)), (.int (19 : Int32)), (.ref b1), (.ref b1)])) _
    refine st61 _ ?_
    show Steps p.tables e below (T61.setTop (mkF m 136 #[.val (.int p0), .unset] [(.ref b1)])) _
    refine XS.dup X61.here hx rfl (hb hby d2_136) rfl rfl ?_
    show Steps p.tables e below (T61.setTop (mkF m 137 #[.val (.int p0), .unset] [(.ref b1), (.ref b1)])) _
    refine XS.bipush X61.here hx rfl (hb hby d2_137) ?_
    show Steps p.tables e below (T61.setTop (mkF m 139 #[.val (.int p0), .unset] [(.int (20 : Int32)), (.ref b1), (.ref b1)])) _
    refine X61.ldc2DoubleC hx hown (mvT hZ (hw _ (List.mem_of_getElem? (i := 33) rfl))) (g := (mkF m 139 #[.val (.int p0), .unset] [(.int (20 : Int32)), (.ref b1), (.ref b1)])) rfl (hb hby d2_139) _ ?_
    show Steps p.tables e below (T61.setTop (mkF m 142 #[.val (.int p0), .unset] [(.double (4906019910204099648 : UInt64)), (.int (20 : Int32)), (.ref b1), (.ref b1)])) _
    refine st64 _ ?_
    show Steps p.tables e below (T64.setTop (mkF m 143 #[.val (.int p0), .unset] [(.ref b1)])) _
    refine XS.dup X64.here hx rfl (hb hby d2_143) rfl rfl ?_
    show Steps p.tables e below (T64.setTop (mkF m 144 #[.val (.int p0), .unset] [(.ref b1), (.ref b1)])) _
    refine XS.bipush X64.here hx rfl (hb hby d2_144) ?_
    show Steps p.tables e below (T64.setTop (mkF m 146 #[.val (.int p0), .unset] [(.int (21 : Int32)), (.ref b1), (.ref b1)])) _
    refine X64.ldc2DoubleC hx hown (mvT hZ (hw _ (List.mem_of_getElem? (i := 34) rfl))) (g := (mkF m 146 #[.val (.int p0), .unset] [(.int (21 : Int32)), (.ref b1), (.ref b1)])) rfl (hb hby d2_146) _ ?_
    show Steps p.tables e below (T64.setTop (mkF m 149 #[.val (.int p0), .unset] [(.double (4921056587992461136 : UInt64)), (.int (21 : Int32)), (.ref b1), (.ref b1)])) _
    refine st67 _ ?_
    show Steps p.tables e below (T67.setTop (mkF m 150 #[.val (.int p0), .unset] [(.ref b1)])) _
    refine XS.dup X67.here hx rfl (hb hby d2_150) rfl rfl ?_
    show Steps p.tables e below (T67.setTop (mkF m 151 #[.val (.int p0), .unset] [(.ref b1), (.ref b1)])) _
    refine XS.bipush X67.here hx rfl (hb hby d2_151) ?_
    show Steps p.tables e below (T67.setTop (mkF m 153 #[.val (.int p0), .unset] [(.int (22 : Int32)), (.ref b1), (.ref b1)])) _
    refine X67.ldc2DoubleC hx hown (mvT hZ (hw _ (List.mem_of_getElem? (i := 35) rfl))) (g := (mkF m 153 #[.val (.int p0), .unset] [(.int (22 : Int32)), (.ref b1), (.ref b1)])) rfl (hb hby d2_153) _ ?_
    show Steps p.tables e below (T67.setTop (mkF m 156 #[.val (.int p0), .unset] [(.double (4936209963552724370 : UInt64)), (.int (22 : Int32)), (.ref b1), (.ref b1)])) _
    refine st70 _ ?_
    show Steps p.tables e below (T70.setTop (mkF m 157 #[.val (.int p0), .unset] [(.ref b1)])) _
    refine XS.astoreN X70.here hx rfl (hb hby d2_157) rfl rfl (l' := #[.val (.int p0), .val (.ref b1)]) rfl ?_
    show Steps p.tables e below (T70.setTop (mkF m 158 #[.val (.int p0), .val (.ref b1)] [])) _
    refine XS.aloadN X70.here hx rfl (hb hby d2_158) rfl rfl ?_
    show Steps p.tables e below (T70.setTop (mkF m 159 #[.val (.int p0), .val (.ref b1)] [(.ref b1)])) _
    refine XS.iloadN X70.here hx rfl (hb hby d2_159) rfl ?_
    show Steps p.tables e below (T70.setTop (mkF m 160 #[.val (.int p0), .val (.ref b1)] [(.int p0), (.ref b1)])) _
    refine X70.daload hx (j := p0) (v := (.double (own_pw p0))) (by rw [e70]; exact Ar72.1) (State.isArrayOf_alike hZ.alike Ar72.2.1) Ar72.2.2 hin72 hat72 (g := (mkF m 160 #[.val (.int p0), .val (.ref b1)] [(.int p0), (.ref b1)])) rfl rfl (hb hby d2_160) _ ?_
    exact k
  obtain ⟨fs, hrq, hrun, hended, hW, hsame⟩ := X70.leave (v := some (.double (own_pw p0))) (fun h => by rw [Bd.returns] at h; cases h)
  refine ⟨_, _, pre73 _ ?_, hrun, hended, _, _, rfl, ?_, ⟨_, rfl⟩, hW, hsame.mono (by decide) (by decide)⟩
  · show Steps p.tables e below (T70.setTop (mkF m 161 #[.val (.int p0), .val (.ref b1)] [(.double (own_pw p0))])) _
    exact retOut X70 hx Bd.returns rfl (Or.inr (Or.inr (Or.inl ⟨rfl, rfl, _, rfl⟩))) (hb hby d2_161) hrq
  · show Qpow Z p0 h0 n0 _ T70.heap _
    rw [e70]
    exact ⟨rfl, N70, K70⟩
theorem d1_0 : decode prog_14_method_2_code 0 = .ok (.lload_n 0, 1) := by decide +kernel
theorem d1_1 : decode prog_14_method_2_code 1 = .ok (.lconst 0, 1) := by decide +kernel
theorem d1_2 : decode prog_14_method_2_code 2 = .ok (.lcmp, 1) := by decide +kernel
theorem d1_3 : decode prog_14_method_2_code 3 = .ok (.ifCond .lt 32, 3) := by decide +kernel
theorem d1_6 : decode prog_14_method_2_code 6 = .ok (.lload_n 0, 1) := by decide +kernel
theorem d1_7 : decode prog_14_method_2_code 7 = .ok (.ldc2_w 9, 3) := by decide +kernel
theorem d1_10 : decode prog_14_method_2_code 10 = .ok (.lcmp, 1) := by decide +kernel
theorem d1_11 : decode prog_14_method_2_code 11 = .ok (.ifCond .gt 24, 3) := by decide +kernel
theorem d1_14 : decode prog_14_method_2_code 14 = .ok (.iload_n 2, 1) := by decide +kernel
theorem d1_15 : decode prog_14_method_2_code 15 = .ok (.getstatic 11, 3) := by decide +kernel
theorem d1_18 : decode prog_14_method_2_code 18 = .ok (.arraylength, 1) := by decide +kernel
theorem d1_19 : decode prog_14_method_2_code 19 = .ok (.iconst 1, 1) := by decide +kernel
theorem d1_20 : decode prog_14_method_2_code 20 = .ok (.isub, 1) := by decide +kernel
theorem d1_21 : decode prog_14_method_2_code 21 = .ok (.ineg, 1) := by decide +kernel
theorem d1_22 : decode prog_14_method_2_code 22 = .ok (.if_icmp .lt 13, 3) := by decide +kernel
theorem d1_25 : decode prog_14_method_2_code 25 = .ok (.iload_n 2, 1) := by decide +kernel
theorem d1_26 : decode prog_14_method_2_code 26 = .ok (.getstatic 11, 3) := by decide +kernel
theorem d1_29 : decode prog_14_method_2_code 29 = .ok (.arraylength, 1) := by decide +kernel
theorem d1_30 : decode prog_14_method_2_code 30 = .ok (.iconst 1, 1) := by decide +kernel
theorem d1_31 : decode prog_14_method_2_code 31 = .ok (.isub, 1) := by decide +kernel
theorem d1_32 : decode prog_14_method_2_code 32 = .ok (.if_icmp .le 10, 3) := by decide +kernel
theorem d1_35 : decode prog_14_method_2_code 35 = .ok (.ldc2_w 17, 3) := by decide +kernel
theorem d1_38 : decode prog_14_method_2_code 38 = .ok (.dstore_n 3, 1) := by decide +kernel
theorem d1_39 : decode prog_14_method_2_code 39 = .ok (.goto 29, 3) := by decide +kernel
theorem d1_42 : decode prog_14_method_2_code 42 = .ok (.iload_n 2, 1) := by decide +kernel
theorem d1_43 : decode prog_14_method_2_code 43 = .ok (.ifCond .ge 16, 3) := by decide +kernel
theorem d1_46 : decode prog_14_method_2_code 46 = .ok (.lload_n 0, 1) := by decide +kernel
theorem d1_47 : decode prog_14_method_2_code 47 = .ok (.l2d, 1) := by decide +kernel
theorem d1_48 : decode prog_14_method_2_code 48 = .ok (.getstatic 11, 3) := by decide +kernel
theorem d1_51 : decode prog_14_method_2_code 51 = .ok (.iload_n 2, 1) := by decide +kernel
theorem d1_52 : decode prog_14_method_2_code 52 = .ok (.ineg, 1) := by decide +kernel
theorem d1_53 : decode prog_14_method_2_code 53 = .ok (.daload, 1) := by decide +kernel
theorem d1_54 : decode prog_14_method_2_code 54 = .ok (.ddiv, 1) := by decide +kernel
theorem d1_55 : decode prog_14_method_2_code 55 = .ok (.dstore_n 3, 1) := by decide +kernel
theorem d1_56 : decode prog_14_method_2_code 56 = .ok (.goto 12, 3) := by decide +kernel
theorem d1_59 : decode prog_14_method_2_code 59 = .ok (.lload_n 0, 1) := by decide +kernel
theorem d1_60 : decode prog_14_method_2_code 60 = .ok (.l2d, 1) := by decide +kernel
theorem d1_61 : decode prog_14_method_2_code 61 = .ok (.getstatic 11, 3) := by decide +kernel
theorem d1_64 : decode prog_14_method_2_code 64 = .ok (.iload_n 2, 1) := by decide +kernel
theorem d1_65 : decode prog_14_method_2_code 65 = .ok (.daload, 1) := by decide +kernel
theorem d1_66 : decode prog_14_method_2_code 66 = .ok (.dmul, 1) := by decide +kernel
theorem d1_67 : decode prog_14_method_2_code 67 = .ok (.dstore_n 3, 1) := by decide +kernel
theorem d1_68 : decode prog_14_method_2_code 68 = .ok (.dload_n 3, 1) := by decide +kernel
theorem d1_69 : decode prog_14_method_2_code 69 = .ok (.dreturn, 1) := by decide +kernel
theorem ef_rmex (m : MethodId) (x0 : Int64) (x1 : Int32) : entryFrame m #[(.long x0), (.int x1)] 5 = mkF m 0 #[.val (.long x0), .second, .val (.int x1), .unset, .unset] [] := by first | (simp [entryFrame, mkF, argsToLocals, Value.category]; done) | rfl
theorem pn_1 : plainName "com/example/gunny/gunny/Decimals" = true := by first | (simp [plainName, overriddenIn]; done) | decide +kernel
def Qex (Z : State) (q0 : Int64) (p2 : Int32) (ar : Addr) (kk : ClassId) (h0 : Heap) (n0 : Nat) (v : Option Value) (h : Heap) (L : List Loc) : Prop := v = some (.double (own_ex q0 p2)) ∧ Fr n0 L ∧ h = h0
set_option maxRecDepth 65536 in
set_option maxHeartbeats 40000000 in
theorem rmex (l : Launch) (Z : State) (a0 : Array Value) (hw : ∀ d ∈ tables_1, d.before a0 Z = true) (ws : List Jvm.Cond) (q0 : Int64) (p2 : Int32) (ar : Addr) (kk : ClassId) (h0 : Heap) (n0 : Nat) (Z0 : n0 ≤ h0.size) (S_p : Sta Z h0 "com/example/gunny/gunny/Decimals" "POWERS" "[D" (.ref ar)) (V_ar : Arv Z h0 ar kk .double (23 : Int32) [(.double (4607182418800017408 : UInt64)), (.double (4621819117588971520 : UInt64)), (.double (4636737291354636288 : UInt64)), (.double (4652007308841189376 : UInt64)), (.double (4666723172467343360 : UInt64)), (.double (4681608360884174848 : UInt64)), (.double (4696837146684686336 : UInt64)), (.double (4711630319722168320 : UInt64)), (.double (4726483295884279808 : UInt64)), (.double (4741671816366391296 : UInt64)), (.double (4756540486875873280 : UInt64)), (.double (4771362005757984768 : UInt64)), (.double (4786511204640096256 : UInt64)), (.double (4801453603149578240 : UInt64)), (.double (4816244402031689728 : UInt64)), (.double (4831355200913801216 : UInt64)), (.double (4846369599423283200 : UInt64)), (.double (4861130398305394688 : UInt64)), (.double (4876203697187506176 : UInt64)), (.double (4891288408196988160 : UInt64)), (.double (4906019910204099648 : UInt64)), (.double (4921056587992461136 : UInt64)), (.double (4936209963552724370 : UInt64))] (.double (0 : UInt64))) :
    MetFree l (⟨"com/example/gunny/gunny/Decimals", "exactly", "(JI)D"⟩ : MethodName) (head1 (Jvm.Cond.code (⟨"com/example/gunny/gunny/Decimals", "exactly", "(JI)D"⟩ : MethodName) prog_14_method_2_code 5 (some .double) :: ws) ({ frames := 0, cells := 0, slots := 0, locals := 0 } : Room)) (fun a U => a = #[(.long q0), (.int p2)] ∧ Z.Warmed39 U.vm ∧ U.heap = h0) (fun _ _ _ _ _ => True) (fun _ U o U' => ∃ v L, o = .returned v ∧ Qex Z q0 p2 ar kk h0 n0 v U'.heap L ∧ FrameEnd U o U' L ({ frames := 0, cells := 0, slots := 0, locals := 0 } : Room).cells ({ frames := 0, cells := 0, slots := 0, locals := 0 } : Room).slots) := by
  refine MetFree.of_bodySF (plainFor_of_name pn_1) hisR ?_
  intro p e s0 m args below meth c s₁ Bd hml0 hP hK
  obtain ⟨rfl, hZ, hh⟩ := hP
  have hx := Bd.exec
  have hby := Bd.bytes
  have hml : c.maxLocals = 5 := hml0
  have hown : s0.vm.findClass "com/example/gunny/gunny/Decimals" = some m.cls := findClass_of_methodNamed Bd.named
  have hnm := (name_of_methodNamed Bd.named Bd.method).1
  have X0 : Stand p l e ({ frames := 0, cells := 0, slots := 0, locals := 0 } : Room) s0 m #[(.long q0), (.int p2)] below meth c s₁ [] 0 0 := Stand.of_body Bd
  have e0 : s₁.heap = h0 := by rw [← hh, Bd.state]; rfl
  have N0 := Fr.nil n0
  have pre0 : ∀ t, Steps p.tables e below (s₁.setTop (mkF m 0 #[.val (.long q0), .second, .val (.int p2), .unset, .unset] [])) t → Steps p.tables e below (s₁.setTop (entryFrame m #[(.long q0), (.int p2)] 5)) t := fun t k => castTop (ef_rmex m q0 p2) k
  have pre1 : ∀ t, Steps p.tables e below (s₁.setTop (mkF m 3 #[.val (.long q0), .second, .val (.int p2), .unset, .unset] [(.int (lcmpW q0 (0 : Int64)))])) t → Steps p.tables e below (s₁.setTop (entryFrame m #[(.long q0), (.int p2)] 5)) t := fun t k => by
    refine pre0 t ?_
    show Steps p.tables e below (s₁.setTop (mkF m 0 #[.val (.long q0), .second, .val (.int p2), .unset, .unset] [])) _
    refine XS.lloadN X0.here hx rfl (hb hby d1_0) rfl ?_
    show Steps p.tables e below (s₁.setTop (mkF m 1 #[.val (.long q0), .second, .val (.int p2), .unset, .unset] [(.long q0)])) _
    refine XS.lconst X0.here hx rfl (hb hby d1_1) ?_
    show Steps p.tables e below (s₁.setTop (mkF m 2 #[.val (.long q0), .second, .val (.int p2), .unset, .unset] [(.long (0 : Int64)), (.long q0)])) _
    refine XS.lcmp X0.here hx rfl (hb hby d1_2) rfl ?_
    exact k
  by_cases hc3_2 : (lcmpW q0 (0 : Int64)) < (0 : Int32)
  · have pre3 : ∀ t, Steps p.tables e below (s₁.setTop (mkF m 69 #[.val (.long q0), .second, .val (.int p2), .val (.double (9221120237041090560 : UInt64)), .second] [(.double (9221120237041090560 : UInt64))])) t → Steps p.tables e below (s₁.setTop (entryFrame m #[(.long q0), (.int p2)] 5)) t := fun t k => by
      refine pre1 t ?_
      show Steps p.tables e below (s₁.setTop (mkF m 3 #[.val (.long q0), .second, .val (.int p2), .unset, .unset] [(.int (lcmpW q0 (0 : Int64)))])) _
      refine XS.ifYes X0.here hx rfl (pc0 := 3) (pc' := 35) rfl (hb hby d1_3) rfl ((if0 _ _).trans (tlt hc3_2).1) (by decide) (by decide) ?_
      show Steps p.tables e below (s₁.setTop (mkF m 35 #[.val (.long q0), .second, .val (.int p2), .unset, .unset] [])) _
      refine X0.ldc2DoubleC hx hown (mvT hZ (hw _ (List.mem_of_getElem? (i := 36) rfl))) (g := (mkF m 35 #[.val (.long q0), .second, .val (.int p2), .unset, .unset] [])) rfl (hb hby d1_35) _ ?_
      show Steps p.tables e below (s₁.setTop (mkF m 38 #[.val (.long q0), .second, .val (.int p2), .unset, .unset] [(.double (9221120237041090560 : UInt64))])) _
      refine XS.dstoreN X0.here hx rfl (hb hby d1_38) rfl (l' := #[.val (.long q0), .second, .val (.int p2), .val (.double (9221120237041090560 : UInt64)), .second]) rfl ?_
      show Steps p.tables e below (s₁.setTop (mkF m 39 #[.val (.long q0), .second, .val (.int p2), .val (.double (9221120237041090560 : UInt64)), .second] [])) _
      refine XS.goto X0.here hx rfl (pc0 := 39) (pc' := 68) rfl (hb hby d1_39) (by decide) (by decide) ?_
      show Steps p.tables e below (s₁.setTop (mkF m 68 #[.val (.long q0), .second, .val (.int p2), .val (.double (9221120237041090560 : UInt64)), .second] [])) _
      refine XS.dloadN X0.here hx rfl (hb hby d1_68) rfl ?_
      exact k
    obtain ⟨fs, hrq, hrun, hended, hW, hsame⟩ := X0.leave (v := some (.double (9221120237041090560 : UInt64))) (fun h => by rw [Bd.returns] at h; cases h)
    refine ⟨_, _, pre3 _ ?_, hrun, hended, _, _, rfl, ?_, ⟨_, rfl⟩, hW, hsame.mono (by decide) (by decide)⟩
    · show Steps p.tables e below (s₁.setTop (mkF m 69 #[.val (.long q0), .second, .val (.int p2), .val (.double (9221120237041090560 : UInt64)), .second] [(.double (9221120237041090560 : UInt64))])) _
      exact retOut X0 hx Bd.returns rfl (Or.inr (Or.inr (Or.inl ⟨rfl, rfl, _, rfl⟩))) (hb hby d1_69) hrq
    · show Qex Z q0 p2 ar kk h0 n0 _ s₁.heap _
      rw [e0]
      exact ⟨by rw [own_x1 hc3_2], N0, rfl⟩
  · have pre4 : ∀ t, Steps p.tables e below (s₁.setTop (mkF m 11 #[.val (.long q0), .second, .val (.int p2), .unset, .unset] [(.int (lcmpW q0 (9007199254740992 : Int64)))])) t → Steps p.tables e below (s₁.setTop (entryFrame m #[(.long q0), (.int p2)] 5)) t := fun t k => by
      refine pre1 t ?_
      show Steps p.tables e below (s₁.setTop (mkF m 3 #[.val (.long q0), .second, .val (.int p2), .unset, .unset] [(.int (lcmpW q0 (0 : Int64)))])) _
      refine XS.ifNo X0.here hx rfl (hb hby d1_3) rfl ((if0 _ _).trans (flt hc3_2).1) ?_
      show Steps p.tables e below (s₁.setTop (mkF m 6 #[.val (.long q0), .second, .val (.int p2), .unset, .unset] [])) _
      refine XS.lloadN X0.here hx rfl (hb hby d1_6) rfl ?_
      show Steps p.tables e below (s₁.setTop (mkF m 7 #[.val (.long q0), .second, .val (.int p2), .unset, .unset] [(.long q0)])) _
      refine X0.ldc2Long hx hown (mvT hZ (hw _ (List.mem_of_getElem? (i := 5) rfl))) (g := (mkF m 7 #[.val (.long q0), .second, .val (.int p2), .unset, .unset] [(.long q0)])) rfl (hb hby d1_7) _ ?_
      show Steps p.tables e below (s₁.setTop (mkF m 10 #[.val (.long q0), .second, .val (.int p2), .unset, .unset] [(.long (9007199254740992 : Int64)), (.long q0)])) _
      refine XS.lcmp X0.here hx rfl (hb hby d1_10) rfl ?_
      exact k
    by_cases hc11_5 : (0 : Int32) < (lcmpW q0 (9007199254740992 : Int64))
    · have pre6 : ∀ t, Steps p.tables e below (s₁.setTop (mkF m 69 #[.val (.long q0), .second, .val (.int p2), .val (.double (9221120237041090560 : UInt64)), .second] [(.double (9221120237041090560 : UInt64))])) t → Steps p.tables e below (s₁.setTop (entryFrame m #[(.long q0), (.int p2)] 5)) t := fun t k => by
        refine pre4 t ?_
        show Steps p.tables e below (s₁.setTop (mkF m 11 #[.val (.long q0), .second, .val (.int p2), .unset, .unset] [(.int (lcmpW q0 (9007199254740992 : Int64)))])) _
        refine XS.ifYes X0.here hx rfl (pc0 := 11) (pc' := 35) rfl (hb hby d1_11) rfl ((if0 _ _).trans (tlt hc11_5).2.2.1) (by decide) (by decide) ?_
        show Steps p.tables e below (s₁.setTop (mkF m 35 #[.val (.long q0), .second, .val (.int p2), .unset, .unset] [])) _
        refine X0.ldc2DoubleC hx hown (mvT hZ (hw _ (List.mem_of_getElem? (i := 36) rfl))) (g := (mkF m 35 #[.val (.long q0), .second, .val (.int p2), .unset, .unset] [])) rfl (hb hby d1_35) _ ?_
        show Steps p.tables e below (s₁.setTop (mkF m 38 #[.val (.long q0), .second, .val (.int p2), .unset, .unset] [(.double (9221120237041090560 : UInt64))])) _
        refine XS.dstoreN X0.here hx rfl (hb hby d1_38) rfl (l' := #[.val (.long q0), .second, .val (.int p2), .val (.double (9221120237041090560 : UInt64)), .second]) rfl ?_
        show Steps p.tables e below (s₁.setTop (mkF m 39 #[.val (.long q0), .second, .val (.int p2), .val (.double (9221120237041090560 : UInt64)), .second] [])) _
        refine XS.goto X0.here hx rfl (pc0 := 39) (pc' := 68) rfl (hb hby d1_39) (by decide) (by decide) ?_
        show Steps p.tables e below (s₁.setTop (mkF m 68 #[.val (.long q0), .second, .val (.int p2), .val (.double (9221120237041090560 : UInt64)), .second] [])) _
        refine XS.dloadN X0.here hx rfl (hb hby d1_68) rfl ?_
        exact k
      obtain ⟨fs, hrq, hrun, hended, hW, hsame⟩ := X0.leave (v := some (.double (9221120237041090560 : UInt64))) (fun h => by rw [Bd.returns] at h; cases h)
      refine ⟨_, _, pre6 _ ?_, hrun, hended, _, _, rfl, ?_, ⟨_, rfl⟩, hW, hsame.mono (by decide) (by decide)⟩
      · show Steps p.tables e below (s₁.setTop (mkF m 69 #[.val (.long q0), .second, .val (.int p2), .val (.double (9221120237041090560 : UInt64)), .second] [(.double (9221120237041090560 : UInt64))])) _
        exact retOut X0 hx Bd.returns rfl (Or.inr (Or.inr (Or.inl ⟨rfl, rfl, _, rfl⟩))) (hb hby d1_69) hrq
      · show Qex Z q0 p2 ar kk h0 n0 _ s₁.heap _
        rw [e0]
        exact ⟨by rw [own_x2 hc11_5], N0, rfl⟩
    · obtain ⟨T7, X7, e7, st7⟩ := getS2 X0 hx hZ hown (host := "") (Or.inl (hw _ (List.mem_of_getElem? (i := 6) rfl))) Via.refl e0 S_p (g := (mkF m 15 #[.val (.long q0), .second, .val (.int p2), .unset, .unset] [(.int p2)])) rfl (hb hby d1_15)
      obtain ⟨cl8, Ar8, -, Sz8, Nz8, -, -⟩ := id V_ar
      have pre9 : ∀ t, Steps p.tables e below (T7.setTop (mkF m 22 #[.val (.long q0), .second, .val (.int p2), .unset, .unset] [(.int (-22 : Int32)), (.int p2)])) t → Steps p.tables e below (s₁.setTop (entryFrame m #[(.long q0), (.int p2)] 5)) t := fun t k => by
        refine pre4 t ?_
        show Steps p.tables e below (s₁.setTop (mkF m 11 #[.val (.long q0), .second, .val (.int p2), .unset, .unset] [(.int (lcmpW q0 (9007199254740992 : Int64)))])) _
        refine XS.ifNo X0.here hx rfl (hb hby d1_11) rfl ((if0 _ _).trans (flt hc11_5).2.2.1) ?_
        show Steps p.tables e below (s₁.setTop (mkF m 14 #[.val (.long q0), .second, .val (.int p2), .unset, .unset] [])) _
        refine XS.iloadN X0.here hx rfl (hb hby d1_14) rfl ?_
        show Steps p.tables e below (s₁.setTop (mkF m 15 #[.val (.long q0), .second, .val (.int p2), .unset, .unset] [(.int p2)])) _
        refine st7 _ ?_
        show Steps p.tables e below (T7.setTop (mkF m 18 #[.val (.long q0), .second, .val (.int p2), .unset, .unset] [(.ref ar), (.int p2)])) _
        refine X7.arraylength hx (by rw [e7]; exact Ar8.1) (State.isArrayOf_alike hZ.alike Ar8.2.1) (g := (mkF m 18 #[.val (.long q0), .second, .val (.int p2), .unset, .unset] [(.ref ar), (.int p2)])) rfl rfl (hb hby d1_18) _ ?_
        rw [len_of Sz8 Nz8]
        show Steps p.tables e below (T7.setTop (mkF m 19 #[.val (.long q0), .second, .val (.int p2), .unset, .unset] [(.int (23 : Int32)), (.int p2)])) _
        refine XS.iconst X7.here hx rfl (hb hby d1_19) ?_
        show Steps p.tables e below (T7.setTop (mkF m 20 #[.val (.long q0), .second, .val (.int p2), .unset, .unset] [(.int (1 : Int32)), (.int (23 : Int32)), (.int p2)])) _
        refine XS.isub X7.here hx rfl (hb hby d1_20) rfl ?_
        show Steps p.tables e below (T7.setTop (mkF m 21 #[.val (.long q0), .second, .val (.int p2), .unset, .unset] [(.int (22 : Int32)), (.int p2)])) _
        refine XS.ineg X7.here hx rfl (hb hby d1_21) rfl ?_
        exact k
      by_cases hc22_10 : p2 < (-22 : Int32)
      · have pre11 : ∀ t, Steps p.tables e below (T7.setTop (mkF m 69 #[.val (.long q0), .second, .val (.int p2), .val (.double (9221120237041090560 : UInt64)), .second] [(.double (9221120237041090560 : UInt64))])) t → Steps p.tables e below (s₁.setTop (entryFrame m #[(.long q0), (.int p2)] 5)) t := fun t k => by
          refine pre9 t ?_
          show Steps p.tables e below (T7.setTop (mkF m 22 #[.val (.long q0), .second, .val (.int p2), .unset, .unset] [(.int (-22 : Int32)), (.int p2)])) _
          refine XS.icmpYes X7.here hx rfl (pc0 := 22) (pc' := 35) rfl (hb hby d1_22) rfl (tlt hc22_10).1 (by decide) (by decide) ?_
          show Steps p.tables e below (T7.setTop (mkF m 35 #[.val (.long q0), .second, .val (.int p2), .unset, .unset] [])) _
          refine X7.ldc2DoubleC hx hown (mvT hZ (hw _ (List.mem_of_getElem? (i := 36) rfl))) (g := (mkF m 35 #[.val (.long q0), .second, .val (.int p2), .unset, .unset] [])) rfl (hb hby d1_35) _ ?_
          show Steps p.tables e below (T7.setTop (mkF m 38 #[.val (.long q0), .second, .val (.int p2), .unset, .unset] [(.double (9221120237041090560 : UInt64))])) _
          refine XS.dstoreN X7.here hx rfl (hb hby d1_38) rfl (l' := #[.val (.long q0), .second, .val (.int p2), .val (.double (9221120237041090560 : UInt64)), .second]) rfl ?_
          show Steps p.tables e below (T7.setTop (mkF m 39 #[.val (.long q0), .second, .val (.int p2), .val (.double (9221120237041090560 : UInt64)), .second] [])) _
          refine XS.goto X7.here hx rfl (pc0 := 39) (pc' := 68) rfl (hb hby d1_39) (by decide) (by decide) ?_
          show Steps p.tables e below (T7.setTop (mkF m 68 #[.val (.long q0), .second, .val (.int p2), .val (.double (9221120237041090560 : UInt64)), .second] [])) _
          refine XS.dloadN X7.here hx rfl (hb hby d1_68) rfl ?_
          exact k
        obtain ⟨fs, hrq, hrun, hended, hW, hsame⟩ := X7.leave (v := some (.double (9221120237041090560 : UInt64))) (fun h => by rw [Bd.returns] at h; cases h)
        refine ⟨_, _, pre11 _ ?_, hrun, hended, _, _, rfl, ?_, ⟨_, rfl⟩, hW, hsame.mono (by decide) (by decide)⟩
        · show Steps p.tables e below (T7.setTop (mkF m 69 #[.val (.long q0), .second, .val (.int p2), .val (.double (9221120237041090560 : UInt64)), .second] [(.double (9221120237041090560 : UInt64))])) _
          exact retOut X7 hx Bd.returns rfl (Or.inr (Or.inr (Or.inl ⟨rfl, rfl, _, rfl⟩))) (hb hby d1_69) hrq
        · show Qex Z q0 p2 ar kk h0 n0 _ T7.heap _
          rw [e7]
          exact ⟨by rw [own_x3 hc22_10], N0, rfl⟩
      · obtain ⟨T12, X12, e12, st12⟩ := getS2 X7 hx hZ hown (host := "") (Or.inl (hw _ (List.mem_of_getElem? (i := 6) rfl))) Via.refl e7 S_p (g := (mkF m 26 #[.val (.long q0), .second, .val (.int p2), .unset, .unset] [(.int p2)])) rfl (hb hby d1_26)
        obtain ⟨cl13, Ar13, -, Sz13, Nz13, -, -⟩ := id V_ar
        have pre14 : ∀ t, Steps p.tables e below (T12.setTop (mkF m 32 #[.val (.long q0), .second, .val (.int p2), .unset, .unset] [(.int (22 : Int32)), (.int p2)])) t → Steps p.tables e below (s₁.setTop (entryFrame m #[(.long q0), (.int p2)] 5)) t := fun t k => by
          refine pre9 t ?_
          show Steps p.tables e below (T7.setTop (mkF m 22 #[.val (.long q0), .second, .val (.int p2), .unset, .unset] [(.int (-22 : Int32)), (.int p2)])) _
          refine XS.icmpNo X7.here hx rfl (hb hby d1_22) rfl (flt hc22_10).1 ?_
          show Steps p.tables e below (T7.setTop (mkF m 25 #[.val (.long q0), .second, .val (.int p2), .unset, .unset] [])) _
          refine XS.iloadN X7.here hx rfl (hb hby d1_25) rfl ?_
          show Steps p.tables e below (T7.setTop (mkF m 26 #[.val (.long q0), .second, .val (.int p2), .unset, .unset] [(.int p2)])) _
          refine st12 _ ?_
          show Steps p.tables e below (T12.setTop (mkF m 29 #[.val (.long q0), .second, .val (.int p2), .unset, .unset] [(.ref ar), (.int p2)])) _
          refine X12.arraylength hx (by rw [e12]; exact Ar13.1) (State.isArrayOf_alike hZ.alike Ar13.2.1) (g := (mkF m 29 #[.val (.long q0), .second, .val (.int p2), .unset, .unset] [(.ref ar), (.int p2)])) rfl rfl (hb hby d1_29) _ ?_
          rw [len_of Sz13 Nz13]
          show Steps p.tables e below (T12.setTop (mkF m 30 #[.val (.long q0), .second, .val (.int p2), .unset, .unset] [(.int (23 : Int32)), (.int p2)])) _
          refine XS.iconst X12.here hx rfl (hb hby d1_30) ?_
          show Steps p.tables e below (T12.setTop (mkF m 31 #[.val (.long q0), .second, .val (.int p2), .unset, .unset] [(.int (1 : Int32)), (.int (23 : Int32)), (.int p2)])) _
          refine XS.isub X12.here hx rfl (hb hby d1_31) rfl ?_
          exact k
        by_cases hc32_15 : (22 : Int32) < p2
        · have pre16 : ∀ t, Steps p.tables e below (T12.setTop (mkF m 69 #[.val (.long q0), .second, .val (.int p2), .val (.double (9221120237041090560 : UInt64)), .second] [(.double (9221120237041090560 : UInt64))])) t → Steps p.tables e below (s₁.setTop (entryFrame m #[(.long q0), (.int p2)] 5)) t := fun t k => by
            refine pre14 t ?_
            show Steps p.tables e below (T12.setTop (mkF m 32 #[.val (.long q0), .second, .val (.int p2), .unset, .unset] [(.int (22 : Int32)), (.int p2)])) _
            refine XS.icmpNo X12.here hx rfl (hb hby d1_32) rfl (tlt hc32_15).2.2.2 ?_
            show Steps p.tables e below (T12.setTop (mkF m 35 #[.val (.long q0), .second, .val (.int p2), .unset, .unset] [])) _
            refine X12.ldc2DoubleC hx hown (mvT hZ (hw _ (List.mem_of_getElem? (i := 36) rfl))) (g := (mkF m 35 #[.val (.long q0), .second, .val (.int p2), .unset, .unset] [])) rfl (hb hby d1_35) _ ?_
            show Steps p.tables e below (T12.setTop (mkF m 38 #[.val (.long q0), .second, .val (.int p2), .unset, .unset] [(.double (9221120237041090560 : UInt64))])) _
            refine XS.dstoreN X12.here hx rfl (hb hby d1_38) rfl (l' := #[.val (.long q0), .second, .val (.int p2), .val (.double (9221120237041090560 : UInt64)), .second]) rfl ?_
            show Steps p.tables e below (T12.setTop (mkF m 39 #[.val (.long q0), .second, .val (.int p2), .val (.double (9221120237041090560 : UInt64)), .second] [])) _
            refine XS.goto X12.here hx rfl (pc0 := 39) (pc' := 68) rfl (hb hby d1_39) (by decide) (by decide) ?_
            show Steps p.tables e below (T12.setTop (mkF m 68 #[.val (.long q0), .second, .val (.int p2), .val (.double (9221120237041090560 : UInt64)), .second] [])) _
            refine XS.dloadN X12.here hx rfl (hb hby d1_68) rfl ?_
            exact k
          obtain ⟨fs, hrq, hrun, hended, hW, hsame⟩ := X12.leave (v := some (.double (9221120237041090560 : UInt64))) (fun h => by rw [Bd.returns] at h; cases h)
          refine ⟨_, _, pre16 _ ?_, hrun, hended, _, _, rfl, ?_, ⟨_, rfl⟩, hW, hsame.mono (by decide) (by decide)⟩
          · show Steps p.tables e below (T12.setTop (mkF m 69 #[.val (.long q0), .second, .val (.int p2), .val (.double (9221120237041090560 : UInt64)), .second] [(.double (9221120237041090560 : UInt64))])) _
            exact retOut X12 hx Bd.returns rfl (Or.inr (Or.inr (Or.inl ⟨rfl, rfl, _, rfl⟩))) (hb hby d1_69) hrq
          · show Qex Z q0 p2 ar kk h0 n0 _ T12.heap _
            rw [e12]
            exact ⟨by rw [own_x4 hc32_15], N0, rfl⟩
        · have pre17 : ∀ t, Steps p.tables e below (T12.setTop (mkF m 43 #[.val (.long q0), .second, .val (.int p2), .unset, .unset] [(.int p2)])) t → Steps p.tables e below (s₁.setTop (entryFrame m #[(.long q0), (.int p2)] 5)) t := fun t k => by
            refine pre14 t ?_
            show Steps p.tables e below (T12.setTop (mkF m 32 #[.val (.long q0), .second, .val (.int p2), .unset, .unset] [(.int (22 : Int32)), (.int p2)])) _
            refine XS.icmpYes X12.here hx rfl (pc0 := 32) (pc' := 42) rfl (hb hby d1_32) rfl (flt hc32_15).2.2.2 (by decide) (by decide) ?_
            show Steps p.tables e below (T12.setTop (mkF m 42 #[.val (.long q0), .second, .val (.int p2), .unset, .unset] [])) _
            refine XS.iloadN X12.here hx rfl (hb hby d1_42) rfl ?_
            exact k
          by_cases hc43_18 : p2 < (0 : Int32)
          · obtain ⟨T19, X19, e19, st19⟩ := getS2 X12 hx hZ hown (host := "") (Or.inl (hw _ (List.mem_of_getElem? (i := 6) rfl))) Via.refl e12 S_p (g := (mkF m 48 #[.val (.long q0), .second, .val (.int p2), .unset, .unset] [(.double (FP.l2d q0))])) rfl (hb hby d1_48)
            obtain ⟨cl20, Ar20, -, Sz20, Nz20, Hs20, Gs20⟩ := id V_ar
            have hin20 : ¬ ((-p2) < 0 ∨ cl20.slots.size ≤ ((-p2)).toNatClampNeg) := inb_of Sz20 (own_in1 hc22_10 hc43_18)
            have hat20 : cl20.slots[((-p2)).toNatClampNeg]? = some (.double (own_pw (-p2))) := Hs20.at hin20 (own_at _)
            have pre21 : ∀ t, Steps p.tables e below (T19.setTop (mkF m 69 #[.val (.long q0), .second, .val (.int p2), .val (.double (FP.ddiv (FP.l2d q0) (own_pw (-p2)))), .second] [(.double (FP.ddiv (FP.l2d q0) (own_pw (-p2))))])) t → Steps p.tables e below (s₁.setTop (entryFrame m #[(.long q0), (.int p2)] 5)) t := fun t k => by
              refine pre17 t ?_
              show Steps p.tables e below (T12.setTop (mkF m 43 #[.val (.long q0), .second, .val (.int p2), .unset, .unset] [(.int p2)])) _
              refine XS.ifNo X12.here hx rfl (hb hby d1_43) rfl ((if0 _ _).trans (tlt hc43_18).2.1) ?_
              show Steps p.tables e below (T12.setTop (mkF m 46 #[.val (.long q0), .second, .val (.int p2), .unset, .unset] [])) _
              refine XS.lloadN X12.here hx rfl (hb hby d1_46) rfl ?_
              show Steps p.tables e below (T12.setTop (mkF m 47 #[.val (.long q0), .second, .val (.int p2), .unset, .unset] [(.long q0)])) _
              refine XS.l2dS X12.here hx rfl (hb hby d1_47) rfl rfl ?_
              show Steps p.tables e below (T12.setTop (mkF m 48 #[.val (.long q0), .second, .val (.int p2), .unset, .unset] [(.double (FP.l2d q0))])) _
              refine st19 _ ?_
              show Steps p.tables e below (T19.setTop (mkF m 51 #[.val (.long q0), .second, .val (.int p2), .unset, .unset] [(.ref ar), (.double (FP.l2d q0))])) _
              refine XS.iloadN X19.here hx rfl (hb hby d1_51) rfl ?_
              show Steps p.tables e below (T19.setTop (mkF m 52 #[.val (.long q0), .second, .val (.int p2), .unset, .unset] [(.int p2), (.ref ar), (.double (FP.l2d q0))])) _
              refine XS.ineg X19.here hx rfl (hb hby d1_52) rfl ?_
              show Steps p.tables e below (T19.setTop (mkF m 53 #[.val (.long q0), .second, .val (.int p2), .unset, .unset] [(.int (-p2)), (.ref ar), (.double (FP.l2d q0))])) _
              refine X19.daload hx (j := (-p2)) (v := (.double (own_pw (-p2)))) (by rw [e19]; exact Ar20.1) (State.isArrayOf_alike hZ.alike Ar20.2.1) Ar20.2.2 hin20 hat20 (g := (mkF m 53 #[.val (.long q0), .second, .val (.int p2), .unset, .unset] [(.int (-p2)), (.ref ar), (.double (FP.l2d q0))])) rfl rfl (hb hby d1_53) _ ?_
              show Steps p.tables e below (T19.setTop (mkF m 54 #[.val (.long q0), .second, .val (.int p2), .unset, .unset] [(.double (own_pw (-p2))), (.double (FP.l2d q0))])) _
              refine XS.ddivS X19.here hx rfl (hb hby d1_54) rfl (own_div _ (own_in1 hc22_10 hc43_18)) rfl ?_
              show Steps p.tables e below (T19.setTop (mkF m 55 #[.val (.long q0), .second, .val (.int p2), .unset, .unset] [(.double (FP.ddiv (FP.l2d q0) (own_pw (-p2))))])) _
              refine XS.dstoreN X19.here hx rfl (hb hby d1_55) rfl (l' := #[.val (.long q0), .second, .val (.int p2), .val (.double (FP.ddiv (FP.l2d q0) (own_pw (-p2)))), .second]) rfl ?_
              show Steps p.tables e below (T19.setTop (mkF m 56 #[.val (.long q0), .second, .val (.int p2), .val (.double (FP.ddiv (FP.l2d q0) (own_pw (-p2)))), .second] [])) _
              refine XS.goto X19.here hx rfl (pc0 := 56) (pc' := 68) rfl (hb hby d1_56) (by decide) (by decide) ?_
              show Steps p.tables e below (T19.setTop (mkF m 68 #[.val (.long q0), .second, .val (.int p2), .val (.double (FP.ddiv (FP.l2d q0) (own_pw (-p2)))), .second] [])) _
              refine XS.dloadN X19.here hx rfl (hb hby d1_68) rfl ?_
              exact k
            obtain ⟨fs, hrq, hrun, hended, hW, hsame⟩ := X19.leave (v := some (.double (FP.ddiv (FP.l2d q0) (own_pw (-p2))))) (fun h => by rw [Bd.returns] at h; cases h)
            refine ⟨_, _, pre21 _ ?_, hrun, hended, _, _, rfl, ?_, ⟨_, rfl⟩, hW, hsame.mono (by decide) (by decide)⟩
            · show Steps p.tables e below (T19.setTop (mkF m 69 #[.val (.long q0), .second, .val (.int p2), .val (.double (FP.ddiv (FP.l2d q0) (own_pw (-p2)))), .second] [(.double (FP.ddiv (FP.l2d q0) (own_pw (-p2))))])) _
              exact retOut X19 hx Bd.returns rfl (Or.inr (Or.inr (Or.inl ⟨rfl, rfl, _, rfl⟩))) (hb hby d1_69) hrq
            · show Qex Z q0 p2 ar kk h0 n0 _ T19.heap _
              rw [e19]
              exact ⟨by rw [own_x5 hc3_2 hc11_5 hc22_10 hc32_15 hc43_18], N0, rfl⟩
          · obtain ⟨T22, X22, e22, st22⟩ := getS2 X12 hx hZ hown (host := "") (Or.inl (hw _ (List.mem_of_getElem? (i := 6) rfl))) Via.refl e12 S_p (g := (mkF m 61 #[.val (.long q0), .second, .val (.int p2), .unset, .unset] [(.double (FP.l2d q0))])) rfl (hb hby d1_61)
            obtain ⟨cl23, Ar23, -, Sz23, Nz23, Hs23, Gs23⟩ := id V_ar
            have hin23 : ¬ (p2 < 0 ∨ cl23.slots.size ≤ (p2).toNatClampNeg) := inb_of Sz23 (own_in2 hc32_15 hc43_18)
            have hat23 : cl23.slots[(p2).toNatClampNeg]? = some (.double (own_pw p2)) := Hs23.at hin23 (own_at _)
            have pre24 : ∀ t, Steps p.tables e below (T22.setTop (mkF m 69 #[.val (.long q0), .second, .val (.int p2), .val (.double (FP.dmul (FP.l2d q0) (own_pw p2))), .second] [(.double (FP.dmul (FP.l2d q0) (own_pw p2)))])) t → Steps p.tables e below (s₁.setTop (entryFrame m #[(.long q0), (.int p2)] 5)) t := fun t k => by
              refine pre17 t ?_
              show Steps p.tables e below (T12.setTop (mkF m 43 #[.val (.long q0), .second, .val (.int p2), .unset, .unset] [(.int p2)])) _
              refine XS.ifYes X12.here hx rfl (pc0 := 43) (pc' := 59) rfl (hb hby d1_43) rfl ((if0 _ _).trans (flt hc43_18).2.1) (by decide) (by decide) ?_
              show Steps p.tables e below (T12.setTop (mkF m 59 #[.val (.long q0), .second, .val (.int p2), .unset, .unset] [])) _
              refine XS.lloadN X12.here hx rfl (hb hby d1_59) rfl ?_
              show Steps p.tables e below (T12.setTop (mkF m 60 #[.val (.long q0), .second, .val (.int p2), .unset, .unset] [(.long q0)])) _
              refine XS.l2dS X12.here hx rfl (hb hby d1_60) rfl rfl ?_
              show Steps p.tables e below (T12.setTop (mkF m 61 #[.val (.long q0), .second, .val (.int p2), .unset, .unset] [(.double (FP.l2d q0))])) _
              refine st22 _ ?_
              show Steps p.tables e below (T22.setTop (mkF m 64 #[.val (.long q0), .second, .val (.int p2), .unset, .unset] [(.ref ar), (.double (FP.l2d q0))])) _
              refine XS.iloadN X22.here hx rfl (hb hby d1_64) rfl ?_
              show Steps p.tables e below (T22.setTop (mkF m 65 #[.val (.long q0), .second, .val (.int p2), .unset, .unset] [(.int p2), (.ref ar), (.double (FP.l2d q0))])) _
              refine X22.daload hx (j := p2) (v := (.double (own_pw p2))) (by rw [e22]; exact Ar23.1) (State.isArrayOf_alike hZ.alike Ar23.2.1) Ar23.2.2 hin23 hat23 (g := (mkF m 65 #[.val (.long q0), .second, .val (.int p2), .unset, .unset] [(.int p2), (.ref ar), (.double (FP.l2d q0))])) rfl rfl (hb hby d1_65) _ ?_
              show Steps p.tables e below (T22.setTop (mkF m 66 #[.val (.long q0), .second, .val (.int p2), .unset, .unset] [(.double (own_pw p2)), (.double (FP.l2d q0))])) _
              refine XS.dmulS X22.here hx rfl (hb hby d1_66) rfl (own_mul _ (own_in2 hc32_15 hc43_18)) rfl ?_
              show Steps p.tables e below (T22.setTop (mkF m 67 #[.val (.long q0), .second, .val (.int p2), .unset, .unset] [(.double (FP.dmul (FP.l2d q0) (own_pw p2)))])) _
              refine XS.dstoreN X22.here hx rfl (hb hby d1_67) rfl (l' := #[.val (.long q0), .second, .val (.int p2), .val (.double (FP.dmul (FP.l2d q0) (own_pw p2))), .second]) rfl ?_
              show Steps p.tables e below (T22.setTop (mkF m 68 #[.val (.long q0), .second, .val (.int p2), .val (.double (FP.dmul (FP.l2d q0) (own_pw p2))), .second] [])) _
              refine XS.dloadN X22.here hx rfl (hb hby d1_68) rfl ?_
              exact k
            obtain ⟨fs, hrq, hrun, hended, hW, hsame⟩ := X22.leave (v := some (.double (FP.dmul (FP.l2d q0) (own_pw p2)))) (fun h => by rw [Bd.returns] at h; cases h)
            refine ⟨_, _, pre24 _ ?_, hrun, hended, _, _, rfl, ?_, ⟨_, rfl⟩, hW, hsame.mono (by decide) (by decide)⟩
            · show Steps p.tables e below (T22.setTop (mkF m 69 #[.val (.long q0), .second, .val (.int p2), .val (.double (FP.dmul (FP.l2d q0) (own_pw p2))), .second] [(.double (FP.dmul (FP.l2d q0) (own_pw p2)))])) _
              exact retOut X22 hx Bd.returns rfl (Or.inr (Or.inr (Or.inl ⟨rfl, rfl, _, rfl⟩))) (hb hby d1_69) hrq
            · show Qex Z q0 p2 ar kk h0 n0 _ T22.heap _
              rw [e22]
              exact ⟨by rw [own_x6 hc3_2 hc11_5 hc22_10 hc32_15 hc43_18], N0, rfl⟩
theorem pd_0 : parseMethodDescriptor "(JI)D" = some ⟨[.long, .int], some .double⟩ := by decide +kernel
theorem pd_1 : parseMethodDescriptor "(I)D" = some ⟨[.int], some .double⟩ := by decide +kernel
theorem ef_rm0 (m : MethodId) (x0 : Int64) (x1 : Int32) (x2 : Int32) : entryFrame m #[(.long x0), (.int x1), (.int x2)] maxLocals = mkF m 0 #[.val (.long x0), .second, .val (.int x1), .val (.int x2), .unset, .unset, .unset, .unset, .unset, .unset, .unset, .unset] [] := by first | (simp [entryFrame, mkF, argsToLocals, Value.category, maxLocals]; done) | rfl
def Q0 (Z : State) (q0 : Int64) (p2 : Int32) (p3 : Int32) (ar : Addr) (kk : ClassId) (h0 : Heap) (n0 : Nat) (v : Option Value) (h : Heap) (L : List Loc) : Prop := v = some (.int 1) ∧ Fr n0 L
set_option maxRecDepth 65536 in
set_option maxHeartbeats 40000000 in
theorem rm0 (l : Launch) (Z : State) (a0 : Array Value) (hw : ∀ d ∈ tables_1, d.before a0 Z = true) (ws : List Jvm.Cond) (q0 : Int64) (p2 : Int32) (p3 : Int32) (ar : Addr) (kk : ClassId) (h0 : Heap) (n0 : Nat) (Z0 : n0 ≤ h0.size) (S_p : Sta Z h0 "com/example/gunny/gunny/Decimals" "POWERS" "[D" (.ref ar)) (V_ar : Arv Z h0 ar kk .double (23 : Int32) [(.double (4607182418800017408 : UInt64)), (.double (4621819117588971520 : UInt64)), (.double (4636737291354636288 : UInt64)), (.double (4652007308841189376 : UInt64)), (.double (4666723172467343360 : UInt64)), (.double (4681608360884174848 : UInt64)), (.double (4696837146684686336 : UInt64)), (.double (4711630319722168320 : UInt64)), (.double (4726483295884279808 : UInt64)), (.double (4741671816366391296 : UInt64)), (.double (4756540486875873280 : UInt64)), (.double (4771362005757984768 : UInt64)), (.double (4786511204640096256 : UInt64)), (.double (4801453603149578240 : UInt64)), (.double (4816244402031689728 : UInt64)), (.double (4831355200913801216 : UInt64)), (.double (4846369599423283200 : UInt64)), (.double (4861130398305394688 : UInt64)), (.double (4876203697187506176 : UInt64)), (.double (4891288408196988160 : UInt64)), (.double (4906019910204099648 : UInt64)), (.double (4921056587992461136 : UInt64)), (.double (4936209963552724370 : UInt64))] (.double (0 : UInt64))) :
    MetFree l x (head1 (Jvm.Cond.code x code maxLocals ret :: ws) room_1) (fun a U => a = #[(.long q0), (.int p2), (.int p3)] ∧ Z.Warmed39 U.vm ∧ U.heap = h0) (fun _ _ _ _ _ => True) (fun _ U o U' => ∃ v L, o = .returned v ∧ Q0 Z q0 p2 p3 ar kk h0 n0 v U'.heap L ∧ FrameEnd U o U' L room_1.cells room_1.slots) := by
  refine MetFree.of_bodySF (plainFor_of_name pn_0) hisR ?_
  intro p e s0 m args below meth c s₁ Bd hml0 hP hK
  obtain ⟨rfl, hZ, hh⟩ := hP
  have hx := Bd.exec
  have hby := Bd.bytes
  have hml : c.maxLocals = 12 := hml0
  have hown : s0.vm.findClass "com/example/gunny/gunny/DecimalsExactlyPinLaw" = some m.cls := findClass_of_methodNamed Bd.named
  have hnm := (name_of_methodNamed Bd.named Bd.method).1
  have X0 : Stand p l e room_1 s0 m #[(.long q0), (.int p2), (.int p3)] below meth c s₁ [] 0 0 := Stand.of_body Bd
  have e0 : s₁.heap = h0 := by rw [← hh, Bd.state]; rfl
  have N0 := Fr.nil n0
  have pre0 : ∀ t, Steps p.tables e below (s₁.setTop (mkF m 0 #[.val (.long q0), .second, .val (.int p2), .val (.int p3), .unset, .unset, .unset, .unset, .unset, .unset, .unset, .unset] [])) t → Steps p.tables e below (s₁.setTop (entryFrame m #[(.long q0), (.int p2), (.int p3)] maxLocals)) t := fun t k => castTop (ef_rm0 m q0 p2 p3) k
  obtain ⟨T1, nn, Lx1, X1, e1, N1, pre1⟩ : ∃ (T1 : State) (nn : Int64) (Lx1 : List Loc), Stand p l e room_1 s0 m #[(.long q0), (.int p2), (.int p3)] below meth c T1 Lx1 0 0 ∧ T1.heap = h0 ∧ Fr n0 Lx1 ∧ (∀ t, Steps p.tables e below (T1.setTop (mkF m 15 #[.val (.long q0), .second, .val (.int p2), .val (.int p3), .unset, .unset, .unset, .unset, .unset, .unset, .unset, .unset] [(.long nn)])) t → Steps p.tables e below (s₁.setTop (entryFrame m #[(.long q0), (.int p2), (.int p3)] maxLocals)) t) := by
    have pre2 : ∀ t, Steps p.tables e below (s₁.setTop (mkF m 3 #[.val (.long q0), .second, .val (.int p2), .val (.int p3), .unset, .unset, .unset, .unset, .unset, .unset, .unset, .unset] [(.int (p3 &&& (1 : Int32)))])) t → Steps p.tables e below (s₁.setTop (entryFrame m #[(.long q0), (.int p2), (.int p3)] maxLocals)) t := fun t k => by
      refine pre0 t ?_
      show Steps p.tables e below (s₁.setTop (mkF m 0 #[.val (.long q0), .second, .val (.int p2), .val (.int p3), .unset, .unset, .unset, .unset, .unset, .unset, .unset, .unset] [])) _
      refine XS.iloadN X0.here hx rfl (hb hby at_0) rfl ?_
      show Steps p.tables e below (s₁.setTop (mkF m 1 #[.val (.long q0), .second, .val (.int p2), .val (.int p3), .unset, .unset, .unset, .unset, .unset, .unset, .unset, .unset] [(.int p3)])) _
      refine XS.iconst X0.here hx rfl (hb hby at_1) ?_
      show Steps p.tables e below (s₁.setTop (mkF m 2 #[.val (.long q0), .second, .val (.int p2), .val (.int p3), .unset, .unset, .unset, .unset, .unset, .unset, .unset, .unset] [(.int (1 : Int32)), (.int p3)])) _
      refine XS.iand X0.here hx rfl (hb hby at_2) rfl ?_
      exact k
    by_cases hc3_3 : (p3 &&& (1 : Int32)) = (0 : Int32)
    · have pre4 : ∀ t, Steps p.tables e below (s₁.setTop (mkF m 15 #[.val (.long q0), .second, .val (.int p2), .val (.int p3), .unset, .unset, .unset, .unset, .unset, .unset, .unset, .unset] [(.long q0)])) t → Steps p.tables e below (s₁.setTop (entryFrame m #[(.long q0), (.int p2), (.int p3)] maxLocals)) t := fun t k => by
        refine pre2 t ?_
        show Steps p.tables e below (s₁.setTop (mkF m 3 #[.val (.long q0), .second, .val (.int p2), .val (.int p3), .unset, .unset, .unset, .unset, .unset, .unset, .unset, .unset] [(.int (p3 &&& (1 : Int32)))])) _
        refine XS.ifNo X0.here hx rfl (hb hby at_3) rfl ((if0 _ _).trans (teq hc3_3).2) ?_
        show Steps p.tables e below (s₁.setTop (mkF m 6 #[.val (.long q0), .second, .val (.int p2), .val (.int p3), .unset, .unset, .unset, .unset, .unset, .unset, .unset, .unset] [])) _
        refine XS.lloadN X0.here hx rfl (hb hby at_6) rfl ?_
        show Steps p.tables e below (s₁.setTop (mkF m 7 #[.val (.long q0), .second, .val (.int p2), .val (.int p3), .unset, .unset, .unset, .unset, .unset, .unset, .unset, .unset] [(.long q0)])) _
        refine XS.goto X0.here hx rfl (pc0 := 7) (pc' := 15) rfl (hb hby at_7) (by decide) (by decide) ?_
        exact k
      exact ⟨s₁, q0, _, X0, e0, N0, pre4⟩
    · have pre5 : ∀ t, Steps p.tables e below (s₁.setTop (mkF m 15 #[.val (.long q0), .second, .val (.int p2), .val (.int p3), .unset, .unset, .unset, .unset, .unset, .unset, .unset, .unset] [(.long (q0 &&& (18014398509481983 : Int64)))])) t → Steps p.tables e below (s₁.setTop (entryFrame m #[(.long q0), (.int p2), (.int p3)] maxLocals)) t := fun t k => by
        refine pre2 t ?_
        show Steps p.tables e below (s₁.setTop (mkF m 3 #[.val (.long q0), .second, .val (.int p2), .val (.int p3), .unset, .unset, .unset, .unset, .unset, .unset, .unset, .unset] [(.int (p3 &&& (1 : Int32)))])) _
        refine XS.ifYes X0.here hx rfl (pc0 := 3) (pc' := 10) rfl (hb hby at_3) rfl ((if0 _ _).trans (feq hc3_3).2) (by decide) (by decide) ?_
        show Steps p.tables e below (s₁.setTop (mkF m 10 #[.val (.long q0), .second, .val (.int p2), .val (.int p3), .unset, .unset, .unset, .unset, .unset, .unset, .unset, .unset] [])) _
        refine XS.lloadN X0.here hx rfl (hb hby at_10) rfl ?_
        show Steps p.tables e below (s₁.setTop (mkF m 11 #[.val (.long q0), .second, .val (.int p2), .val (.int p3), .unset, .unset, .unset, .unset, .unset, .unset, .unset, .unset] [(.long q0)])) _
        refine X0.ldc2Long hx hown (mvT hZ (hw _ (List.mem_of_getElem? (i := 0) rfl))) (g := (mkF m 11 #[.val (.long q0), .second, .val (.int p2), .val (.int p3), .unset, .unset, .unset, .unset, .unset, .unset, .unset, .unset] [(.long q0)])) rfl (hb hby at_11) _ ?_
        show Steps p.tables e below (s₁.setTop (mkF m 14 #[.val (.long q0), .second, .val (.int p2), .val (.int p3), .unset, .unset, .unset, .unset, .unset, .unset, .unset, .unset] [(.long (18014398509481983 : Int64)), (.long q0)])) _
        refine XS.land X0.here hx rfl (hb hby at_14) rfl ?_
        exact k
      exact ⟨s₁, (q0 &&& (18014398509481983 : Int64)), _, X0, e0, N0, pre5⟩
  obtain ⟨T6, ee, Lx6, X6, e6, N6, pre6⟩ : ∃ (T6 : State) (ee : Int32) (Lx6 : List Loc), Stand p l e room_1 s0 m #[(.long q0), (.int p2), (.int p3)] below meth c T6 Lx6 0 0 ∧ T6.heap = h0 ∧ Fr n0 Lx6 ∧ (∀ t, Steps p.tables e below (T6.setTop (mkF m 31 #[.val (.long q0), .second, .val (.int p2), .val (.int p3), .val (.long nn), .second, .unset, .unset, .unset, .unset, .unset, .unset] [(.int ee)])) t → Steps p.tables e below (s₁.setTop (entryFrame m #[(.long q0), (.int p2), (.int p3)] maxLocals)) t) := by
    have pre7 : ∀ t, Steps p.tables e below (T1.setTop (mkF m 20 #[.val (.long q0), .second, .val (.int p2), .val (.int p3), .val (.long nn), .second, .unset, .unset, .unset, .unset, .unset, .unset] [(.int (p3 &&& (2 : Int32)))])) t → Steps p.tables e below (s₁.setTop (entryFrame m #[(.long q0), (.int p2), (.int p3)] maxLocals)) t := fun t k => by
      refine pre1 t ?_
      show Steps p.tables e below (T1.setTop (mkF m 15 #[.val (.long q0), .second, .val (.int p2), .val (.int p3), .unset, .unset, .unset, .unset, .unset, .unset, .unset, .unset] [(.long nn)])) _
      refine XS.lstore X1.here hx rfl (hb hby at_15) rfl (l' := #[.val (.long q0), .second, .val (.int p2), .val (.int p3), .val (.long nn), .second, .unset, .unset, .unset, .unset, .unset, .unset]) rfl ?_
      show Steps p.tables e below (T1.setTop (mkF m 17 #[.val (.long q0), .second, .val (.int p2), .val (.int p3), .val (.long nn), .second, .unset, .unset, .unset, .unset, .unset, .unset] [])) _
      refine XS.iloadN X1.here hx rfl (hb hby at_17) rfl ?_
      show Steps p.tables e below (T1.setTop (mkF m 18 #[.val (.long q0), .second, .val (.int p2), .val (.int p3), .val (.long nn), .second, .unset, .unset, .unset, .unset, .unset, .unset] [(.int p3)])) _
      refine XS.iconst X1.here hx rfl (hb hby at_18) ?_
      show Steps p.tables e below (T1.setTop (mkF m 19 #[.val (.long q0), .second, .val (.int p2), .val (.int p3), .val (.long nn), .second, .unset, .unset, .unset, .unset, .unset, .unset] [(.int (2 : Int32)), (.int p3)])) _
      refine XS.iand X1.here hx rfl (hb hby at_19) rfl ?_
      exact k
    by_cases hc20_8 : (p3 &&& (2 : Int32)) = (0 : Int32)
    · have pre9 : ∀ t, Steps p.tables e below (T1.setTop (mkF m 31 #[.val (.long q0), .second, .val (.int p2), .val (.int p3), .val (.long nn), .second, .unset, .unset, .unset, .unset, .unset, .unset] [(.int p2)])) t → Steps p.tables e below (s₁.setTop (entryFrame m #[(.long q0), (.int p2), (.int p3)] maxLocals)) t := fun t k => by
        refine pre7 t ?_
        show Steps p.tables e below (T1.setTop (mkF m 20 #[.val (.long q0), .second, .val (.int p2), .val (.int p3), .val (.long nn), .second, .unset, .unset, .unset, .unset, .unset, .unset] [(.int (p3 &&& (2 : Int32)))])) _
        refine XS.ifNo X1.here hx rfl (hb hby at_20) rfl ((if0 _ _).trans (teq hc20_8).2) ?_
        show Steps p.tables e below (T1.setTop (mkF m 23 #[.val (.long q0), .second, .val (.int p2), .val (.int p3), .val (.long nn), .second, .unset, .unset, .unset, .unset, .unset, .unset] [])) _
        refine XS.iloadN X1.here hx rfl (hb hby at_23) rfl ?_
        show Steps p.tables e below (T1.setTop (mkF m 24 #[.val (.long q0), .second, .val (.int p2), .val (.int p3), .val (.long nn), .second, .unset, .unset, .unset, .unset, .unset, .unset] [(.int p2)])) _
        refine XS.goto X1.here hx rfl (pc0 := 24) (pc' := 31) rfl (hb hby at_24) (by decide) (by decide) ?_
        exact k
      exact ⟨T1, p2, _, X1, e1, N1, pre9⟩
    · have pre10 : ∀ t, Steps p.tables e below (T1.setTop (mkF m 31 #[.val (.long q0), .second, .val (.int p2), .val (.int p3), .val (.long nn), .second, .unset, .unset, .unset, .unset, .unset, .unset] [(.int (p2 % (25 : Int32)))])) t → Steps p.tables e below (s₁.setTop (entryFrame m #[(.long q0), (.int p2), (.int p3)] maxLocals)) t := fun t k => by
        refine pre7 t ?_
        show Steps p.tables e below (T1.setTop (mkF m 20 #[.val (.long q0), .second, .val (.int p2), .val (.int p3), .val (.long nn), .second, .unset, .unset, .unset, .unset, .unset, .unset] [(.int (p3 &&& (2 : Int32)))])) _
        refine XS.ifYes X1.here hx rfl (pc0 := 20) (pc' := 27) rfl (hb hby at_20) rfl ((if0 _ _).trans (feq hc20_8).2) (by decide) (by decide) ?_
        show Steps p.tables e below (T1.setTop (mkF m 27 #[.val (.long q0), .second, .val (.int p2), .val (.int p3), .val (.long nn), .second, .unset, .unset, .unset, .unset, .unset, .unset] [])) _
        refine XS.iloadN X1.here hx rfl (hb hby at_27) rfl ?_
        show Steps p.tables e below (T1.setTop (mkF m 28 #[.val (.long q0), .second, .val (.int p2), .val (.int p3), .val (.long nn), .second, .unset, .unset, .unset, .unset, .unset, .unset] [(.int p2)])) _
        refine XS.bipush X1.here hx rfl (hb hby at_28) ?_
        show Steps p.tables e below (T1.setTop (mkF m 30 #[.val (.long q0), .second, .val (.int p2), .val (.int p3), .val (.long nn), .second, .unset, .unset, .unset, .unset, .unset, .unset] [(.int (25 : Int32)), (.int p2)])) _
        refine iremM X1 hx rfl (hb hby at_30) rfl (by decide) ?_
        exact k
      exact ⟨T1, (p2 % (25 : Int32)), _, X1, e1, N1, pre10⟩
  obtain ⟨_, _, ⟨T11, L11, k11, n11⟩, -, X11, ⟨Lc11, hQ11, l11, y11, z11⟩, st11⟩ := Jvm.LawKit.callS X6 hx (y := (⟨"com/example/gunny/gunny/Decimals", "exactly", "(JI)D"⟩ : MethodName)) hown (mvT hZ (hw _ (List.mem_of_getElem? (i := 1) rfl))) (mvT hZ (hw _ (List.mem_of_getElem? (i := 2) rfl))) (mvT hZ (hw _ (List.mem_of_getElem? (i := 3) rfl))) (mvT hZ (hw _ (List.mem_of_getElem? (i := 4) rfl))) (by decide) (backOf (W := 0) (rmex l Z a0 hw [] nn ee ar kk h0 n0 Z0 S_p V_ar) hZ (hw _ (List.mem_of_getElem? (i := 4) rfl)) (hw _ (List.mem_of_getElem? (i := 3) rfl)) (by decide) (by decide)) (g := (mkF m 37 #[.val (.long q0), .second, .val (.int p2), .val (.int p3), .val (.long nn), .second, .val (.int ee), .unset, .unset, .unset, .unset, .unset] [(.int ee), (.long nn)])) rfl (by rw [hml]; rfl) (argsL := [(.long nn), (.int ee)]) (rest := []) (lenOf pd_0 rfl) rfl (by show 2 * 0 + _ ≤ _; exact Nat.le_of_eq rfl) (hb hby at_37) (fun _ _ => ⟨rfl, e6, (by decide : 0 + 0 ≤ _), (by decide : 0 + 0 ≤ _)⟩)
  dsimp only [Pt.U, Pt.locs, Pt.cells, Pt.slots] at X11 l11 y11 z11 st11 hQ11
  subst l11 y11 z11
  obtain ⟨rfl, Nq11, hh11⟩ := hQ11
  have N11 := Fr.app N6 Nq11
  have e11 : T11.heap = h0 := hh11
  have pre12 : ∀ t, Steps p.tables e below (T11.setTop (mkF m 46 #[.val (.long q0), .second, .val (.int p2), .val (.int p3), .val (.long nn), .second, .val (.int ee), .val (.double (own_ex nn ee)), .second, .unset, .unset, .unset] [(.int (lcmpW nn (0 : Int64)))])) t → Steps p.tables e below (s₁.setTop (entryFrame m #[(.long q0), (.int p2), (.int p3)] maxLocals)) t := fun t k => by
    refine pre6 t ?_
    show Steps p.tables e below (T6.setTop (mkF m 31 #[.val (.long q0), .second, .val (.int p2), .val (.int p3), .val (.long nn), .second, .unset, .unset, .unset, .unset, .unset, .unset] [(.int ee)])) _
    refine XS.istore X6.here hx rfl (hb hby at_31) rfl (l' := #[.val (.long q0), .second, .val (.int p2), .val (.int p3), .val (.long nn), .second, .val (.int ee), .unset, .unset, .unset, .unset, .unset]) rfl ?_
    show Steps p.tables e below (T6.setTop (mkF m 33 #[.val (.long q0), .second, .val (.int p2), .val (.int p3), .val (.long nn), .second, .val (.int ee), .unset, .unset, .unset, .unset, .unset] [])) _
    refine XS.lload X6.here hx rfl (hb hby at_33) rfl ?_
    show Steps p.tables e below (T6.setTop (mkF m 35 #[.val (.long q0), .second, .val (.int p2), .val (.int p3), .val (.long nn), .second, .val (.int ee), .unset, .unset, .unset, .unset, .unset] [(.long nn)])) _
    refine XS.iload X6.here hx rfl (hb hby at_35) rfl ?_
    show Steps p.tables e below (T6.setTop (mkF m 37 #[.val (.long q0), .second, .val (.int p2), .val (.int p3), .val (.long nn), .second, .val (.int ee), .unset, .unset, .unset, .unset, .unset] [(.int ee), (.long nn)])) _
    refine st11 _ ?_
    show Steps p.tables e below (T11.setTop (mkF m 40 #[.val (.long q0), .second, .val (.int p2), .val (.int p3), .val (.long nn), .second, .val (.int ee), .unset, .unset, .unset, .unset, .unset] [(.double (own_ex nn ee))])) _
    refine XS.dstore X11.here hx rfl (hb hby at_40) rfl (l' := #[.val (.long q0), .second, .val (.int p2), .val (.int p3), .val (.long nn), .second, .val (.int ee), .val (.double (own_ex nn ee)), .second, .unset, .unset, .unset]) rfl ?_
    show Steps p.tables e below (T11.setTop (mkF m 42 #[.val (.long q0), .second, .val (.int p2), .val (.int p3), .val (.long nn), .second, .val (.int ee), .val (.double (own_ex nn ee)), .second, .unset, .unset, .unset] [])) _
    refine XS.lload X11.here hx rfl (hb hby at_42) rfl ?_
    show Steps p.tables e below (T11.setTop (mkF m 44 #[.val (.long q0), .second, .val (.int p2), .val (.int p3), .val (.long nn), .second, .val (.int ee), .val (.double (own_ex nn ee)), .second, .unset, .unset, .unset] [(.long nn)])) _
    refine XS.lconst X11.here hx rfl (hb hby at_44) ?_
    show Steps p.tables e below (T11.setTop (mkF m 45 #[.val (.long q0), .second, .val (.int p2), .val (.int p3), .val (.long nn), .second, .val (.int ee), .val (.double (own_ex nn ee)), .second, .unset, .unset, .unset] [(.long (0 : Int64)), (.long nn)])) _
    refine XS.lcmp X11.here hx rfl (hb hby at_45) rfl ?_
    exact k
  by_cases hc46_13 : (lcmpW nn (0 : Int64)) < (0 : Int32)
  · have pre14 : ∀ t, Steps p.tables e below (T11.setTop (mkF m 97 #[.val (.long q0), .second, .val (.int p2), .val (.int p3), .val (.long nn), .second, .val (.int ee), .val (.double (own_ex nn ee)), .second, .val (.int (0 : Int32)), .unset, .unset] [(.int (1 : Int32))])) t → Steps p.tables e below (s₁.setTop (entryFrame m #[(.long q0), (.int p2), (.int p3)] maxLocals)) t := fun t k => by
      refine pre12 t ?_
      show Steps p.tables e below (T11.setTop (mkF m 46 #[.val (.long q0), .second, .val (.int p2), .val (.int p3), .val (.long nn), .second, .val (.int ee), .val (.double (own_ex nn ee)), .second, .unset, .unset, .unset] [(.int (lcmpW nn (0 : Int64)))])) _
      refine XS.ifYes X11.here hx rfl (pc0 := 46) (pc' := 76) rfl (hb hby at_46) rfl ((if0 _ _).trans (tlt hc46_13).1) (by decide) (by decide) ?_
      show Steps p.tables e below (T11.setTop (mkF m 76 #[.val (.long q0), .second, .val (.int p2), .val (.int p3), .val (.long nn), .second, .val (.int ee), .val (.double (own_ex nn ee)), .second, .unset, .unset, .unset] [])) _
      refine XS.iconst X11.here hx rfl (hb hby at_76) ?_
      show Steps p.tables e below (T11.setTop (mkF m 77 #[.val (.long q0), .second, .val (.int p2), .val (.int p3), .val (.long nn), .second, .val (.int ee), .val (.double (own_ex nn ee)), .second, .unset, .unset, .unset] [(.int (0 : Int32))])) _
      refine XS.istore X11.here hx rfl (hb hby at_77) rfl (l' := #[.val (.long q0), .second, .val (.int p2), .val (.int p3), .val (.long nn), .second, .val (.int ee), .val (.double (own_ex nn ee)), .second, .val (.int (0 : Int32)), .unset, .unset]) rfl ?_
      show Steps p.tables e below (T11.setTop (mkF m 79 #[.val (.long q0), .second, .val (.int p2), .val (.int p3), .val (.long nn), .second, .val (.int ee), .val (.double (own_ex nn ee)), .second, .val (.int (0 : Int32)), .unset, .unset] [])) _
      refine XS.iload X11.here hx rfl (hb hby at_79) rfl ?_
      show Steps p.tables e below (T11.setTop (mkF m 81 #[.val (.long q0), .second, .val (.int p2), .val (.int p3), .val (.long nn), .second, .val (.int ee), .val (.double (own_ex nn ee)), .second, .val (.int (0 : Int32)), .unset, .unset] [(.int (0 : Int32))])) _
      refine XS.ifNo X11.here hx rfl (hb hby at_81) rfl ((if0 _ _).trans (teq (by decide : (0 : Int32) = (0 : Int32))).2) ?_
      show Steps p.tables e below (T11.setTop (mkF m 84 #[.val (.long q0), .second, .val (.int p2), .val (.int p3), .val (.long nn), .second, .val (.int ee), .val (.double (own_ex nn ee)), .second, .val (.int (0 : Int32)), .unset, .unset] [])) _
      refine XS.dload X11.here hx rfl (hb hby at_84) rfl ?_
      show Steps p.tables e below (T11.setTop (mkF m 86 #[.val (.long q0), .second, .val (.int p2), .val (.int p3), .val (.long nn), .second, .val (.int ee), .val (.double (own_ex nn ee)), .second, .val (.int (0 : Int32)), .unset, .unset] [(.double (own_ex nn ee))])) _
      refine XS.dload X11.here hx rfl (hb hby at_86) rfl ?_
      show Steps p.tables e below (T11.setTop (mkF m 88 #[.val (.long q0), .second, .val (.int p2), .val (.int p3), .val (.long nn), .second, .val (.int ee), .val (.double (own_ex nn ee)), .second, .val (.int (0 : Int32)), .unset, .unset] [(.double (own_ex nn ee)), (.double (own_ex nn ee))])) _
      refine XS.dcmpS X11.here hx rfl (hb hby at_88) rfl (v := (-1 : Int32)) (by rw [own_x1 hc46_13]; decide +kernel) ?_
      show Steps p.tables e below (T11.setTop (mkF m 89 #[.val (.long q0), .second, .val (.int p2), .val (.int p3), .val (.long nn), .second, .val (.int ee), .val (.double (own_ex nn ee)), .second, .val (.int (0 : Int32)), .unset, .unset] [(.int (-1 : Int32))])) _
      refine XS.ifNo X11.here hx rfl (hb hby at_89) rfl ((if0 _ _).trans (feq (by decide : ¬ ((-1 : Int32) = (0 : Int32)))).1) ?_
      show Steps p.tables e below (T11.setTop (mkF m 92 #[.val (.long q0), .second, .val (.int p2), .val (.int p3), .val (.long nn), .second, .val (.int ee), .val (.double (own_ex nn ee)), .second, .val (.int (0 : Int32)), .unset, .unset] [])) _
      refine XS.iconst X11.here hx rfl (hb hby at_92) ?_
      show Steps p.tables e below (T11.setTop (mkF m 93 #[.val (.long q0), .second, .val (.int p2), .val (.int p3), .val (.long nn), .second, .val (.int ee), .val (.double (own_ex nn ee)), .second, .val (.int (0 : Int32)), .unset, .unset] [(.int (1 : Int32))])) _
      refine XS.goto X11.here hx rfl (pc0 := 93) (pc' := 97) rfl (hb hby at_93) (by decide) (by decide) ?_
      exact k
    obtain ⟨fs, hrq, hrun, hended, hW, hsame⟩ := X11.leave (v := some (.int (1 : Int32))) (fun h => by rw [Bd.returns] at h; cases h)
    refine ⟨_, _, pre14 _ ?_, hrun, hended, _, _, rfl, ?_, ⟨_, rfl⟩, hW, hsame.mono (by decide) (by decide)⟩
    · show Steps p.tables e below (T11.setTop (mkF m 97 #[.val (.long q0), .second, .val (.int p2), .val (.int p3), .val (.long nn), .second, .val (.int ee), .val (.double (own_ex nn ee)), .second, .val (.int (0 : Int32)), .unset, .unset] [(.int (1 : Int32))])) _
      exact retN X11 hx (t := .boolean) Bd.returns (by simp) (hb hby at_97) hrq
    · show Q0 Z q0 p2 p3 ar kk h0 n0 _ T11.heap _
      rw [e11]
      exact ⟨rfl, N11⟩
  · have pre15 : ∀ t, Steps p.tables e below (T11.setTop (mkF m 55 #[.val (.long q0), .second, .val (.int p2), .val (.int p3), .val (.long nn), .second, .val (.int ee), .val (.double (own_ex nn ee)), .second, .unset, .unset, .unset] [(.int (lcmpW nn (9007199254740992 : Int64)))])) t → Steps p.tables e below (s₁.setTop (entryFrame m #[(.long q0), (.int p2), (.int p3)] maxLocals)) t := fun t k => by
      refine pre12 t ?_
      show Steps p.tables e below (T11.setTop (mkF m 46 #[.val (.long q0), .second, .val (.int p2), .val (.int p3), .val (.long nn), .second, .val (.int ee), .val (.double (own_ex nn ee)), .second, .unset, .unset, .unset] [(.int (lcmpW nn (0 : Int64)))])) _
      refine XS.ifNo X11.here hx rfl (hb hby at_46) rfl ((if0 _ _).trans (flt hc46_13).1) ?_
      show Steps p.tables e below (T11.setTop (mkF m 49 #[.val (.long q0), .second, .val (.int p2), .val (.int p3), .val (.long nn), .second, .val (.int ee), .val (.double (own_ex nn ee)), .second, .unset, .unset, .unset] [])) _
      refine XS.lload X11.here hx rfl (hb hby at_49) rfl ?_
      show Steps p.tables e below (T11.setTop (mkF m 51 #[.val (.long q0), .second, .val (.int p2), .val (.int p3), .val (.long nn), .second, .val (.int ee), .val (.double (own_ex nn ee)), .second, .unset, .unset, .unset] [(.long nn)])) _
      refine X11.ldc2Long hx hown (mvT hZ (hw _ (List.mem_of_getElem? (i := 8) rfl))) (g := (mkF m 51 #[.val (.long q0), .second, .val (.int p2), .val (.int p3), .val (.long nn), .second, .val (.int ee), .val (.double (own_ex nn ee)), .second, .unset, .unset, .unset] [(.long nn)])) rfl (hb hby at_51) _ ?_
      show Steps p.tables e below (T11.setTop (mkF m 54 #[.val (.long q0), .second, .val (.int p2), .val (.int p3), .val (.long nn), .second, .val (.int ee), .val (.double (own_ex nn ee)), .second, .unset, .unset, .unset] [(.long (9007199254740992 : Int64)), (.long nn)])) _
      refine XS.lcmp X11.here hx rfl (hb hby at_54) rfl ?_
      exact k
    by_cases hc55_16 : (0 : Int32) < (lcmpW nn (9007199254740992 : Int64))
    · have pre17 : ∀ t, Steps p.tables e below (T11.setTop (mkF m 97 #[.val (.long q0), .second, .val (.int p2), .val (.int p3), .val (.long nn), .second, .val (.int ee), .val (.double (own_ex nn ee)), .second, .val (.int (0 : Int32)), .unset, .unset] [(.int (1 : Int32))])) t → Steps p.tables e below (s₁.setTop (entryFrame m #[(.long q0), (.int p2), (.int p3)] maxLocals)) t := fun t k => by
        refine pre15 t ?_
        show Steps p.tables e below (T11.setTop (mkF m 55 #[.val (.long q0), .second, .val (.int p2), .val (.int p3), .val (.long nn), .second, .val (.int ee), .val (.double (own_ex nn ee)), .second, .unset, .unset, .unset] [(.int (lcmpW nn (9007199254740992 : Int64)))])) _
        refine XS.ifYes X11.here hx rfl (pc0 := 55) (pc' := 76) rfl (hb hby at_55) rfl ((if0 _ _).trans (tlt hc55_16).2.2.1) (by decide) (by decide) ?_
        show Steps p.tables e below (T11.setTop (mkF m 76 #[.val (.long q0), .second, .val (.int p2), .val (.int p3), .val (.long nn), .second, .val (.int ee), .val (.double (own_ex nn ee)), .second, .unset, .unset, .unset] [])) _
        refine XS.iconst X11.here hx rfl (hb hby at_76) ?_
        show Steps p.tables e below (T11.setTop (mkF m 77 #[.val (.long q0), .second, .val (.int p2), .val (.int p3), .val (.long nn), .second, .val (.int ee), .val (.double (own_ex nn ee)), .second, .unset, .unset, .unset] [(.int (0 : Int32))])) _
        refine XS.istore X11.here hx rfl (hb hby at_77) rfl (l' := #[.val (.long q0), .second, .val (.int p2), .val (.int p3), .val (.long nn), .second, .val (.int ee), .val (.double (own_ex nn ee)), .second, .val (.int (0 : Int32)), .unset, .unset]) rfl ?_
        show Steps p.tables e below (T11.setTop (mkF m 79 #[.val (.long q0), .second, .val (.int p2), .val (.int p3), .val (.long nn), .second, .val (.int ee), .val (.double (own_ex nn ee)), .second, .val (.int (0 : Int32)), .unset, .unset] [])) _
        refine XS.iload X11.here hx rfl (hb hby at_79) rfl ?_
        show Steps p.tables e below (T11.setTop (mkF m 81 #[.val (.long q0), .second, .val (.int p2), .val (.int p3), .val (.long nn), .second, .val (.int ee), .val (.double (own_ex nn ee)), .second, .val (.int (0 : Int32)), .unset, .unset] [(.int (0 : Int32))])) _
        refine XS.ifNo X11.here hx rfl (hb hby at_81) rfl ((if0 _ _).trans (teq (by decide : (0 : Int32) = (0 : Int32))).2) ?_
        show Steps p.tables e below (T11.setTop (mkF m 84 #[.val (.long q0), .second, .val (.int p2), .val (.int p3), .val (.long nn), .second, .val (.int ee), .val (.double (own_ex nn ee)), .second, .val (.int (0 : Int32)), .unset, .unset] [])) _
        refine XS.dload X11.here hx rfl (hb hby at_84) rfl ?_
        show Steps p.tables e below (T11.setTop (mkF m 86 #[.val (.long q0), .second, .val (.int p2), .val (.int p3), .val (.long nn), .second, .val (.int ee), .val (.double (own_ex nn ee)), .second, .val (.int (0 : Int32)), .unset, .unset] [(.double (own_ex nn ee))])) _
        refine XS.dload X11.here hx rfl (hb hby at_86) rfl ?_
        show Steps p.tables e below (T11.setTop (mkF m 88 #[.val (.long q0), .second, .val (.int p2), .val (.int p3), .val (.long nn), .second, .val (.int ee), .val (.double (own_ex nn ee)), .second, .val (.int (0 : Int32)), .unset, .unset] [(.double (own_ex nn ee)), (.double (own_ex nn ee))])) _
        refine XS.dcmpS X11.here hx rfl (hb hby at_88) rfl (v := (-1 : Int32)) (by rw [own_x2 hc55_16]; decide +kernel) ?_
        show Steps p.tables e below (T11.setTop (mkF m 89 #[.val (.long q0), .second, .val (.int p2), .val (.int p3), .val (.long nn), .second, .val (.int ee), .val (.double (own_ex nn ee)), .second, .val (.int (0 : Int32)), .unset, .unset] [(.int (-1 : Int32))])) _
        refine XS.ifNo X11.here hx rfl (hb hby at_89) rfl ((if0 _ _).trans (feq (by decide : ¬ ((-1 : Int32) = (0 : Int32)))).1) ?_
        show Steps p.tables e below (T11.setTop (mkF m 92 #[.val (.long q0), .second, .val (.int p2), .val (.int p3), .val (.long nn), .second, .val (.int ee), .val (.double (own_ex nn ee)), .second, .val (.int (0 : Int32)), .unset, .unset] [])) _
        refine XS.iconst X11.here hx rfl (hb hby at_92) ?_
        show Steps p.tables e below (T11.setTop (mkF m 93 #[.val (.long q0), .second, .val (.int p2), .val (.int p3), .val (.long nn), .second, .val (.int ee), .val (.double (own_ex nn ee)), .second, .val (.int (0 : Int32)), .unset, .unset] [(.int (1 : Int32))])) _
        refine XS.goto X11.here hx rfl (pc0 := 93) (pc' := 97) rfl (hb hby at_93) (by decide) (by decide) ?_
        exact k
      obtain ⟨fs, hrq, hrun, hended, hW, hsame⟩ := X11.leave (v := some (.int (1 : Int32))) (fun h => by rw [Bd.returns] at h; cases h)
      refine ⟨_, _, pre17 _ ?_, hrun, hended, _, _, rfl, ?_, ⟨_, rfl⟩, hW, hsame.mono (by decide) (by decide)⟩
      · show Steps p.tables e below (T11.setTop (mkF m 97 #[.val (.long q0), .second, .val (.int p2), .val (.int p3), .val (.long nn), .second, .val (.int ee), .val (.double (own_ex nn ee)), .second, .val (.int (0 : Int32)), .unset, .unset] [(.int (1 : Int32))])) _
        exact retN X11 hx (t := .boolean) Bd.returns (by simp) (hb hby at_97) hrq
      · show Q0 Z q0 p2 p3 ar kk h0 n0 _ T11.heap _
        rw [e11]
        exact ⟨rfl, N11⟩
    · have pre18 : ∀ t, Steps p.tables e below (T11.setTop (mkF m 62 #[.val (.long q0), .second, .val (.int p2), .val (.int p3), .val (.long nn), .second, .val (.int ee), .val (.double (own_ex nn ee)), .second, .unset, .unset, .unset] [(.int (-22 : Int32)), (.int ee)])) t → Steps p.tables e below (s₁.setTop (entryFrame m #[(.long q0), (.int p2), (.int p3)] maxLocals)) t := fun t k => by
        refine pre15 t ?_
        show Steps p.tables e below (T11.setTop (mkF m 55 #[.val (.long q0), .second, .val (.int p2), .val (.int p3), .val (.long nn), .second, .val (.int ee), .val (.double (own_ex nn ee)), .second, .unset, .unset, .unset] [(.int (lcmpW nn (9007199254740992 : Int64)))])) _
        refine XS.ifNo X11.here hx rfl (hb hby at_55) rfl ((if0 _ _).trans (flt hc55_16).2.2.1) ?_
        show Steps p.tables e below (T11.setTop (mkF m 58 #[.val (.long q0), .second, .val (.int p2), .val (.int p3), .val (.long nn), .second, .val (.int ee), .val (.double (own_ex nn ee)), .second, .unset, .unset, .unset] [])) _
        refine XS.iload X11.here hx rfl (hb hby at_58) rfl ?_
        show Steps p.tables e below (T11.setTop (mkF m 60 #[.val (.long q0), .second, .val (.int p2), .val (.int p3), .val (.long nn), .second, .val (.int ee), .val (.double (own_ex nn ee)), .second, .unset, .unset, .unset] [(.int ee)])) _
        refine XS.bipush X11.here hx rfl (hb hby at_60) ?_
        exact k
      by_cases hc62_19 : ee < (-22 : Int32)
      · have pre20 : ∀ t, Steps p.tables e below (T11.setTop (mkF m 97 #[.val (.long q0), .second, .val (.int p2), .val (.int p3), .val (.long nn), .second, .val (.int ee), .val (.double (own_ex nn ee)), .second, .val (.int (0 : Int32)), .unset, .unset] [(.int (1 : Int32))])) t → Steps p.tables e below (s₁.setTop (entryFrame m #[(.long q0), (.int p2), (.int p3)] maxLocals)) t := fun t k => by
          refine pre18 t ?_
          show Steps p.tables e below (T11.setTop (mkF m 62 #[.val (.long q0), .second, .val (.int p2), .val (.int p3), .val (.long nn), .second, .val (.int ee), .val (.double (own_ex nn ee)), .second, .unset, .unset, .unset] [(.int (-22 : Int32)), (.int ee)])) _
          refine XS.icmpYes X11.here hx rfl (pc0 := 62) (pc' := 76) rfl (hb hby at_62) rfl (tlt hc62_19).1 (by decide) (by decide) ?_
          show Steps p.tables e below (T11.setTop (mkF m 76 #[.val (.long q0), .second, .val (.int p2), .val (.int p3), .val (.long nn), .second, .val (.int ee), .val (.double (own_ex nn ee)), .second, .unset, .unset, .unset] [])) _
          refine XS.iconst X11.here hx rfl (hb hby at_76) ?_
          show Steps p.tables e below (T11.setTop (mkF m 77 #[.val (.long q0), .second, .val (.int p2), .val (.int p3), .val (.long nn), .second, .val (.int ee), .val (.double (own_ex nn ee)), .second, .unset, .unset, .unset] [(.int (0 : Int32))])) _
          refine XS.istore X11.here hx rfl (hb hby at_77) rfl (l' := #[.val (.long q0), .second, .val (.int p2), .val (.int p3), .val (.long nn), .second, .val (.int ee), .val (.double (own_ex nn ee)), .second, .val (.int (0 : Int32)), .unset, .unset]) rfl ?_
          show Steps p.tables e below (T11.setTop (mkF m 79 #[.val (.long q0), .second, .val (.int p2), .val (.int p3), .val (.long nn), .second, .val (.int ee), .val (.double (own_ex nn ee)), .second, .val (.int (0 : Int32)), .unset, .unset] [])) _
          refine XS.iload X11.here hx rfl (hb hby at_79) rfl ?_
          show Steps p.tables e below (T11.setTop (mkF m 81 #[.val (.long q0), .second, .val (.int p2), .val (.int p3), .val (.long nn), .second, .val (.int ee), .val (.double (own_ex nn ee)), .second, .val (.int (0 : Int32)), .unset, .unset] [(.int (0 : Int32))])) _
          refine XS.ifNo X11.here hx rfl (hb hby at_81) rfl ((if0 _ _).trans (teq (by decide : (0 : Int32) = (0 : Int32))).2) ?_
          show Steps p.tables e below (T11.setTop (mkF m 84 #[.val (.long q0), .second, .val (.int p2), .val (.int p3), .val (.long nn), .second, .val (.int ee), .val (.double (own_ex nn ee)), .second, .val (.int (0 : Int32)), .unset, .unset] [])) _
          refine XS.dload X11.here hx rfl (hb hby at_84) rfl ?_
          show Steps p.tables e below (T11.setTop (mkF m 86 #[.val (.long q0), .second, .val (.int p2), .val (.int p3), .val (.long nn), .second, .val (.int ee), .val (.double (own_ex nn ee)), .second, .val (.int (0 : Int32)), .unset, .unset] [(.double (own_ex nn ee))])) _
          refine XS.dload X11.here hx rfl (hb hby at_86) rfl ?_
          show Steps p.tables e below (T11.setTop (mkF m 88 #[.val (.long q0), .second, .val (.int p2), .val (.int p3), .val (.long nn), .second, .val (.int ee), .val (.double (own_ex nn ee)), .second, .val (.int (0 : Int32)), .unset, .unset] [(.double (own_ex nn ee)), (.double (own_ex nn ee))])) _
          refine XS.dcmpS X11.here hx rfl (hb hby at_88) rfl (v := (-1 : Int32)) (by rw [own_x3 hc62_19]; decide +kernel) ?_
          show Steps p.tables e below (T11.setTop (mkF m 89 #[.val (.long q0), .second, .val (.int p2), .val (.int p3), .val (.long nn), .second, .val (.int ee), .val (.double (own_ex nn ee)), .second, .val (.int (0 : Int32)), .unset, .unset] [(.int (-1 : Int32))])) _
          refine XS.ifNo X11.here hx rfl (hb hby at_89) rfl ((if0 _ _).trans (feq (by decide : ¬ ((-1 : Int32) = (0 : Int32)))).1) ?_
          show Steps p.tables e below (T11.setTop (mkF m 92 #[.val (.long q0), .second, .val (.int p2), .val (.int p3), .val (.long nn), .second, .val (.int ee), .val (.double (own_ex nn ee)), .second, .val (.int (0 : Int32)), .unset, .unset] [])) _
          refine XS.iconst X11.here hx rfl (hb hby at_92) ?_
          show Steps p.tables e below (T11.setTop (mkF m 93 #[.val (.long q0), .second, .val (.int p2), .val (.int p3), .val (.long nn), .second, .val (.int ee), .val (.double (own_ex nn ee)), .second, .val (.int (0 : Int32)), .unset, .unset] [(.int (1 : Int32))])) _
          refine XS.goto X11.here hx rfl (pc0 := 93) (pc' := 97) rfl (hb hby at_93) (by decide) (by decide) ?_
          exact k
        obtain ⟨fs, hrq, hrun, hended, hW, hsame⟩ := X11.leave (v := some (.int (1 : Int32))) (fun h => by rw [Bd.returns] at h; cases h)
        refine ⟨_, _, pre20 _ ?_, hrun, hended, _, _, rfl, ?_, ⟨_, rfl⟩, hW, hsame.mono (by decide) (by decide)⟩
        · show Steps p.tables e below (T11.setTop (mkF m 97 #[.val (.long q0), .second, .val (.int p2), .val (.int p3), .val (.long nn), .second, .val (.int ee), .val (.double (own_ex nn ee)), .second, .val (.int (0 : Int32)), .unset, .unset] [(.int (1 : Int32))])) _
          exact retN X11 hx (t := .boolean) Bd.returns (by simp) (hb hby at_97) hrq
        · show Q0 Z q0 p2 p3 ar kk h0 n0 _ T11.heap _
          rw [e11]
          exact ⟨rfl, N11⟩
      · have pre21 : ∀ t, Steps p.tables e below (T11.setTop (mkF m 69 #[.val (.long q0), .second, .val (.int p2), .val (.int p3), .val (.long nn), .second, .val (.int ee), .val (.double (own_ex nn ee)), .second, .unset, .unset, .unset] [(.int (22 : Int32)), (.int ee)])) t → Steps p.tables e below (s₁.setTop (entryFrame m #[(.long q0), (.int p2), (.int p3)] maxLocals)) t := fun t k => by
          refine pre18 t ?_
          show Steps p.tables e below (T11.setTop (mkF m 62 #[.val (.long q0), .second, .val (.int p2), .val (.int p3), .val (.long nn), .second, .val (.int ee), .val (.double (own_ex nn ee)), .second, .unset, .unset, .unset] [(.int (-22 : Int32)), (.int ee)])) _
          refine XS.icmpNo X11.here hx rfl (hb hby at_62) rfl (flt hc62_19).1 ?_
          show Steps p.tables e below (T11.setTop (mkF m 65 #[.val (.long q0), .second, .val (.int p2), .val (.int p3), .val (.long nn), .second, .val (.int ee), .val (.double (own_ex nn ee)), .second, .unset, .unset, .unset] [])) _
          refine XS.iload X11.here hx rfl (hb hby at_65) rfl ?_
          show Steps p.tables e below (T11.setTop (mkF m 67 #[.val (.long q0), .second, .val (.int p2), .val (.int p3), .val (.long nn), .second, .val (.int ee), .val (.double (own_ex nn ee)), .second, .unset, .unset, .unset] [(.int ee)])) _
          refine XS.bipush X11.here hx rfl (hb hby at_67) ?_
          exact k
        by_cases hc69_22 : (22 : Int32) < ee
        · have pre23 : ∀ t, Steps p.tables e below (T11.setTop (mkF m 97 #[.val (.long q0), .second, .val (.int p2), .val (.int p3), .val (.long nn), .second, .val (.int ee), .val (.double (own_ex nn ee)), .second, .val (.int (0 : Int32)), .unset, .unset] [(.int (1 : Int32))])) t → Steps p.tables e below (s₁.setTop (entryFrame m #[(.long q0), (.int p2), (.int p3)] maxLocals)) t := fun t k => by
            refine pre21 t ?_
            show Steps p.tables e below (T11.setTop (mkF m 69 #[.val (.long q0), .second, .val (.int p2), .val (.int p3), .val (.long nn), .second, .val (.int ee), .val (.double (own_ex nn ee)), .second, .unset, .unset, .unset] [(.int (22 : Int32)), (.int ee)])) _
            refine XS.icmpYes X11.here hx rfl (pc0 := 69) (pc' := 76) rfl (hb hby at_69) rfl (tlt hc69_22).2.2.1 (by decide) (by decide) ?_
            show Steps p.tables e below (T11.setTop (mkF m 76 #[.val (.long q0), .second, .val (.int p2), .val (.int p3), .val (.long nn), .second, .val (.int ee), .val (.double (own_ex nn ee)), .second, .unset, .unset, .unset] [])) _
            refine XS.iconst X11.here hx rfl (hb hby at_76) ?_
            show Steps p.tables e below (T11.setTop (mkF m 77 #[.val (.long q0), .second, .val (.int p2), .val (.int p3), .val (.long nn), .second, .val (.int ee), .val (.double (own_ex nn ee)), .second, .unset, .unset, .unset] [(.int (0 : Int32))])) _
            refine XS.istore X11.here hx rfl (hb hby at_77) rfl (l' := #[.val (.long q0), .second, .val (.int p2), .val (.int p3), .val (.long nn), .second, .val (.int ee), .val (.double (own_ex nn ee)), .second, .val (.int (0 : Int32)), .unset, .unset]) rfl ?_
            show Steps p.tables e below (T11.setTop (mkF m 79 #[.val (.long q0), .second, .val (.int p2), .val (.int p3), .val (.long nn), .second, .val (.int ee), .val (.double (own_ex nn ee)), .second, .val (.int (0 : Int32)), .unset, .unset] [])) _
            refine XS.iload X11.here hx rfl (hb hby at_79) rfl ?_
            show Steps p.tables e below (T11.setTop (mkF m 81 #[.val (.long q0), .second, .val (.int p2), .val (.int p3), .val (.long nn), .second, .val (.int ee), .val (.double (own_ex nn ee)), .second, .val (.int (0 : Int32)), .unset, .unset] [(.int (0 : Int32))])) _
            refine XS.ifNo X11.here hx rfl (hb hby at_81) rfl ((if0 _ _).trans (teq (by decide : (0 : Int32) = (0 : Int32))).2) ?_
            show Steps p.tables e below (T11.setTop (mkF m 84 #[.val (.long q0), .second, .val (.int p2), .val (.int p3), .val (.long nn), .second, .val (.int ee), .val (.double (own_ex nn ee)), .second, .val (.int (0 : Int32)), .unset, .unset] [])) _
            refine XS.dload X11.here hx rfl (hb hby at_84) rfl ?_
            show Steps p.tables e below (T11.setTop (mkF m 86 #[.val (.long q0), .second, .val (.int p2), .val (.int p3), .val (.long nn), .second, .val (.int ee), .val (.double (own_ex nn ee)), .second, .val (.int (0 : Int32)), .unset, .unset] [(.double (own_ex nn ee))])) _
            refine XS.dload X11.here hx rfl (hb hby at_86) rfl ?_
            show Steps p.tables e below (T11.setTop (mkF m 88 #[.val (.long q0), .second, .val (.int p2), .val (.int p3), .val (.long nn), .second, .val (.int ee), .val (.double (own_ex nn ee)), .second, .val (.int (0 : Int32)), .unset, .unset] [(.double (own_ex nn ee)), (.double (own_ex nn ee))])) _
            refine XS.dcmpS X11.here hx rfl (hb hby at_88) rfl (v := (-1 : Int32)) (by rw [own_x4 hc69_22]; decide +kernel) ?_
            show Steps p.tables e below (T11.setTop (mkF m 89 #[.val (.long q0), .second, .val (.int p2), .val (.int p3), .val (.long nn), .second, .val (.int ee), .val (.double (own_ex nn ee)), .second, .val (.int (0 : Int32)), .unset, .unset] [(.int (-1 : Int32))])) _
            refine XS.ifNo X11.here hx rfl (hb hby at_89) rfl ((if0 _ _).trans (feq (by decide : ¬ ((-1 : Int32) = (0 : Int32)))).1) ?_
            show Steps p.tables e below (T11.setTop (mkF m 92 #[.val (.long q0), .second, .val (.int p2), .val (.int p3), .val (.long nn), .second, .val (.int ee), .val (.double (own_ex nn ee)), .second, .val (.int (0 : Int32)), .unset, .unset] [])) _
            refine XS.iconst X11.here hx rfl (hb hby at_92) ?_
            show Steps p.tables e below (T11.setTop (mkF m 93 #[.val (.long q0), .second, .val (.int p2), .val (.int p3), .val (.long nn), .second, .val (.int ee), .val (.double (own_ex nn ee)), .second, .val (.int (0 : Int32)), .unset, .unset] [(.int (1 : Int32))])) _
            refine XS.goto X11.here hx rfl (pc0 := 93) (pc' := 97) rfl (hb hby at_93) (by decide) (by decide) ?_
            exact k
          obtain ⟨fs, hrq, hrun, hended, hW, hsame⟩ := X11.leave (v := some (.int (1 : Int32))) (fun h => by rw [Bd.returns] at h; cases h)
          refine ⟨_, _, pre23 _ ?_, hrun, hended, _, _, rfl, ?_, ⟨_, rfl⟩, hW, hsame.mono (by decide) (by decide)⟩
          · show Steps p.tables e below (T11.setTop (mkF m 97 #[.val (.long q0), .second, .val (.int p2), .val (.int p3), .val (.long nn), .second, .val (.int ee), .val (.double (own_ex nn ee)), .second, .val (.int (0 : Int32)), .unset, .unset] [(.int (1 : Int32))])) _
            exact retN X11 hx (t := .boolean) Bd.returns (by simp) (hb hby at_97) hrq
          · show Q0 Z q0 p2 p3 ar kk h0 n0 _ T11.heap _
            rw [e11]
            exact ⟨rfl, N11⟩
        · have pre24 : ∀ t, Steps p.tables e below (T11.setTop (mkF m 105 #[.val (.long q0), .second, .val (.int p2), .val (.int p3), .val (.long nn), .second, .val (.int ee), .val (.double (own_ex nn ee)), .second, .val (.int (1 : Int32)), .val (.double (FP.l2d nn)), .second] [(.int ee)])) t → Steps p.tables e below (s₁.setTop (entryFrame m #[(.long q0), (.int p2), (.int p3)] maxLocals)) t := fun t k => by
            refine pre21 t ?_
            show Steps p.tables e below (T11.setTop (mkF m 69 #[.val (.long q0), .second, .val (.int p2), .val (.int p3), .val (.long nn), .second, .val (.int ee), .val (.double (own_ex nn ee)), .second, .unset, .unset, .unset] [(.int (22 : Int32)), (.int ee)])) _
            refine XS.icmpNo X11.here hx rfl (hb hby at_69) rfl (flt hc69_22).2.2.1 ?_
            show Steps p.tables e below (T11.setTop (mkF m 72 #[.val (.long q0), .second, .val (.int p2), .val (.int p3), .val (.long nn), .second, .val (.int ee), .val (.double (own_ex nn ee)), .second, .unset, .unset, .unset] [])) _
            refine XS.iconst X11.here hx rfl (hb hby at_72) ?_
            show Steps p.tables e below (T11.setTop (mkF m 73 #[.val (.long q0), .second, .val (.int p2), .val (.int p3), .val (.long nn), .second, .val (.int ee), .val (.double (own_ex nn ee)), .second, .unset, .unset, .unset] [(.int (1 : Int32))])) _
            refine XS.goto X11.here hx rfl (pc0 := 73) (pc' := 77) rfl (hb hby at_73) (by decide) (by decide) ?_
            show Steps p.tables e below (T11.setTop (mkF m 77 #[.val (.long q0), .second, .val (.int p2), .val (.int p3), .val (.long nn), .second, .val (.int ee), .val (.double (own_ex nn ee)), .second, .unset, .unset, .unset] [(.int (1 : Int32))])) _
            refine XS.istore X11.here hx rfl (hb hby at_77) rfl (l' := #[.val (.long q0), .second, .val (.int p2), .val (.int p3), .val (.long nn), .second, .val (.int ee), .val (.double (own_ex nn ee)), .second, .val (.int (1 : Int32)), .unset, .unset]) rfl ?_
            show Steps p.tables e below (T11.setTop (mkF m 79 #[.val (.long q0), .second, .val (.int p2), .val (.int p3), .val (.long nn), .second, .val (.int ee), .val (.double (own_ex nn ee)), .second, .val (.int (1 : Int32)), .unset, .unset] [])) _
            refine XS.iload X11.here hx rfl (hb hby at_79) rfl ?_
            show Steps p.tables e below (T11.setTop (mkF m 81 #[.val (.long q0), .second, .val (.int p2), .val (.int p3), .val (.long nn), .second, .val (.int ee), .val (.double (own_ex nn ee)), .second, .val (.int (1 : Int32)), .unset, .unset] [(.int (1 : Int32))])) _
            refine XS.ifYes X11.here hx rfl (pc0 := 81) (pc' := 98) rfl (hb hby at_81) rfl ((if0 _ _).trans (feq (by decide : ¬ ((1 : Int32) = (0 : Int32)))).2) (by decide) (by decide) ?_
            show Steps p.tables e below (T11.setTop (mkF m 98 #[.val (.long q0), .second, .val (.int p2), .val (.int p3), .val (.long nn), .second, .val (.int ee), .val (.double (own_ex nn ee)), .second, .val (.int (1 : Int32)), .unset, .unset] [])) _
            refine XS.lload X11.here hx rfl (hb hby at_98) rfl ?_
            show Steps p.tables e below (T11.setTop (mkF m 100 #[.val (.long q0), .second, .val (.int p2), .val (.int p3), .val (.long nn), .second, .val (.int ee), .val (.double (own_ex nn ee)), .second, .val (.int (1 : Int32)), .unset, .unset] [(.long nn)])) _
            refine XS.l2dS X11.here hx rfl (hb hby at_100) rfl rfl ?_
            show Steps p.tables e below (T11.setTop (mkF m 101 #[.val (.long q0), .second, .val (.int p2), .val (.int p3), .val (.long nn), .second, .val (.int ee), .val (.double (own_ex nn ee)), .second, .val (.int (1 : Int32)), .unset, .unset] [(.double (FP.l2d nn))])) _
            refine XS.dstore X11.here hx rfl (hb hby at_101) rfl (l' := #[.val (.long q0), .second, .val (.int p2), .val (.int p3), .val (.long nn), .second, .val (.int ee), .val (.double (own_ex nn ee)), .second, .val (.int (1 : Int32)), .val (.double (FP.l2d nn)), .second]) rfl ?_
            show Steps p.tables e below (T11.setTop (mkF m 103 #[.val (.long q0), .second, .val (.int p2), .val (.int p3), .val (.long nn), .second, .val (.int ee), .val (.double (own_ex nn ee)), .second, .val (.int (1 : Int32)), .val (.double (FP.l2d nn)), .second] [])) _
            refine XS.iload X11.here hx rfl (hb hby at_103) rfl ?_
            exact k
          by_cases hc105_25 : ee < (0 : Int32)
          · obtain ⟨_, _, ⟨T26, L26, k26, n26⟩, -, X26, ⟨Lc26, hQ26, l26, y26, z26⟩, st26⟩ := Jvm.LawKit.callS X11 hx (y := (⟨"com/example/gunny/gunny/DecimalsExactlyPinLaw", "pow10", "(I)D"⟩ : MethodName)) hown (mvT hZ (hw _ (List.mem_of_getElem? (i := 9) rfl))) (mvT hZ (hw _ (List.mem_of_getElem? (i := 10) rfl))) (mvT hZ (hw _ (List.mem_of_getElem? (i := 11) rfl))) (mvT hZ (hw _ (List.mem_of_getElem? (i := 12) rfl))) (by decide) (backOf (W := 4) (rmpow l Z a0 hw [] (-ee) h0 n0 Z0 (own_in1 hc62_19 hc105_25)) hZ (hw _ (List.mem_of_getElem? (i := 12) rfl)) (hw _ (List.mem_of_getElem? (i := 11) rfl)) (by decide) (by decide)) (g := (mkF m 115 #[.val (.long q0), .second, .val (.int p2), .val (.int p3), .val (.long nn), .second, .val (.int ee), .val (.double (own_ex nn ee)), .second, .val (.int (1 : Int32)), .val (.double (FP.l2d nn)), .second] [(.int (-ee)), (.double (FP.l2d nn)), (.double (own_ex nn ee))])) rfl (by rw [hml]; rfl) (argsL := [(.int (-ee))]) (rest := [(.double (FP.l2d nn)), (.double (own_ex nn ee))]) (lenOf pd_1 rfl) rfl (by show 2 * 0 + _ ≤ _; exact Nat.le_of_eq rfl) (hb hby at_115) (fun _ _ => ⟨rfl, e11, (by decide : 0 + 1 ≤ _), (by decide : 0 + 23 ≤ _)⟩)
            dsimp only [Pt.U, Pt.locs, Pt.cells, Pt.slots] at X26 l26 y26 z26 st26 hQ26
            subst l26 y26 z26
            obtain ⟨rfl, Nq26, Kq26⟩ := hQ26
            have N26 := Fr.app N11 Nq26
            have Z27 : n0 ≤ T26.heap.size := Nat.le_trans Z0 Kq26.1
            have pre28 : ∀ t, Steps p.tables e below (T26.setTop (mkF m 128 #[.val (.long q0), .second, .val (.int p2), .val (.int p3), .val (.long nn), .second, .val (.int ee), .val (.double (own_ex nn ee)), .second, .val (.int (1 : Int32)), .val (.double (FP.l2d nn)), .second] [(.int (1 : Int32))])) t → Steps p.tables e below (s₁.setTop (entryFrame m #[(.long q0), (.int p2), (.int p3)] maxLocals)) t := fun t k => by
              refine pre24 t ?_
              show Steps p.tables e below (T11.setTop (mkF m 105 #[.val (.long q0), .second, .val (.int p2), .val (.int p3), .val (.long nn), .second, .val (.int ee), .val (.double (own_ex nn ee)), .second, .val (.int (1 : Int32)), .val (.double (FP.l2d nn)), .second] [(.int ee)])) _
              refine XS.ifNo X11.here hx rfl (hb hby at_105) rfl ((if0 _ _).trans (tlt hc105_25).2.1) ?_
              show Steps p.tables e below (T11.setTop (mkF m 108 #[.val (.long q0), .second, .val (.int p2), .val (.int p3), .val (.long nn), .second, .val (.int ee), .val (.double (own_ex nn ee)), .second, .val (.int (1 : Int32)), .val (.double (FP.l2d nn)), .second] [])) _
              refine XS.dload X11.here hx rfl (hb hby at_108) rfl ?_
              show Steps p.tables e below (T11.setTop (mkF m 110 #[.val (.long q0), .second, .val (.int p2), .val (.int p3), .val (.long nn), .second, .val (.int ee), .val (.double (own_ex nn ee)), .second, .val (.int (1 : Int32)), .val (.double (FP.l2d nn)), .second] [(.double (own_ex nn ee))])) _
              refine XS.dload X11.here hx rfl (hb hby at_110) rfl ?_
              show Steps p.tables e below (T11.setTop (mkF m 112 #[.val (.long q0), .second, .val (.int p2), .val (.int p3), .val (.long nn), .second, .val (.int ee), .val (.double (own_ex nn ee)), .second, .val (.int (1 : Int32)), .val (.double (FP.l2d nn)), .second] [(.double (FP.l2d nn)), (.double (own_ex nn ee))])) _
              refine XS.iload X11.here hx rfl (hb hby at_112) rfl ?_
              show Steps p.tables e below (T11.setTop (mkF m 114 #[.val (.long q0), .second, .val (.int p2), .val (.int p3), .val (.long nn), .second, .val (.int ee), .val (.double (own_ex nn ee)), .second, .val (.int (1 : Int32)), .val (.double (FP.l2d nn)), .second] [(.int ee), (.double (FP.l2d nn)), (.double (own_ex nn ee))])) _
              refine XS.ineg X11.here hx rfl (hb hby at_114) rfl ?_
              show Steps p.tables e below (T11.setTop (mkF m 115 #[.val (.long q0), .second, .val (.int p2), .val (.int p3), .val (.long nn), .second, .val (.int ee), .val (.double (own_ex nn ee)), .second, .val (.int (1 : Int32)), .val (.double (FP.l2d nn)), .second] [(.int (-ee)), (.double (FP.l2d nn)), (.double (own_ex nn ee))])) _
              refine st26 _ ?_
              show Steps p.tables e below (T26.setTop (mkF m 118 #[.val (.long q0), .second, .val (.int p2), .val (.int p3), .val (.long nn), .second, .val (.int ee), .val (.double (own_ex nn ee)), .second, .val (.int (1 : Int32)), .val (.double (FP.l2d nn)), .second] [(.double (own_pw (-ee))), (.double (FP.l2d nn)), (.double (own_ex nn ee))])) _
              refine XS.ddivS X26.here hx rfl (hb hby at_118) rfl (own_div _ (own_in1 hc62_19 hc105_25)) rfl ?_
              show Steps p.tables e below (T26.setTop (mkF m 119 #[.val (.long q0), .second, .val (.int p2), .val (.int p3), .val (.long nn), .second, .val (.int ee), .val (.double (own_ex nn ee)), .second, .val (.int (1 : Int32)), .val (.double (FP.l2d nn)), .second] [(.double (FP.ddiv (FP.l2d nn) (own_pw (-ee)))), (.double (own_ex nn ee))])) _
              refine XS.dcmpS X26.here hx rfl (hb hby at_119) rfl (v := (0 : Int32)) (dcmpV_eq (own_x5 hc46_13 hc55_16 hc62_19 hc69_22 hc105_25) (by rw [own_x5 hc46_13 hc55_16 hc62_19 hc69_22 hc105_25]; exact own_div _ (own_in1 hc62_19 hc105_25)) _) ?_
              show Steps p.tables e below (T26.setTop (mkF m 120 #[.val (.long q0), .second, .val (.int p2), .val (.int p3), .val (.long nn), .second, .val (.int ee), .val (.double (own_ex nn ee)), .second, .val (.int (1 : Int32)), .val (.double (FP.l2d nn)), .second] [(.int (0 : Int32))])) _
              refine XS.ifNo X26.here hx rfl (hb hby at_120) rfl ((if0 _ _).trans (teq (by decide : (0 : Int32) = (0 : Int32))).2) ?_
              show Steps p.tables e below (T26.setTop (mkF m 123 #[.val (.long q0), .second, .val (.int p2), .val (.int p3), .val (.long nn), .second, .val (.int ee), .val (.double (own_ex nn ee)), .second, .val (.int (1 : Int32)), .val (.double (FP.l2d nn)), .second] [])) _
              refine XS.iconst X26.here hx rfl (hb hby at_123) ?_
              show Steps p.tables e below (T26.setTop (mkF m 124 #[.val (.long q0), .second, .val (.int p2), .val (.int p3), .val (.long nn), .second, .val (.int ee), .val (.double (own_ex nn ee)), .second, .val (.int (1 : Int32)), .val (.double (FP.l2d nn)), .second] [(.int (1 : Int32))])) _
              refine XS.goto X26.here hx rfl (pc0 := 124) (pc' := 128) rfl (hb hby at_124) (by decide) (by decide) ?_
              exact k
            obtain ⟨fs, hrq, hrun, hended, hW, hsame⟩ := X26.leave (v := some (.int (1 : Int32))) (fun h => by rw [Bd.returns] at h; cases h)
            refine ⟨_, _, pre28 _ ?_, hrun, hended, _, _, rfl, ?_, ⟨_, rfl⟩, hW, hsame.mono (by decide) (by decide)⟩
            · show Steps p.tables e below (T26.setTop (mkF m 128 #[.val (.long q0), .second, .val (.int p2), .val (.int p3), .val (.long nn), .second, .val (.int ee), .val (.double (own_ex nn ee)), .second, .val (.int (1 : Int32)), .val (.double (FP.l2d nn)), .second] [(.int (1 : Int32))])) _
              exact retN X26 hx (t := .boolean) Bd.returns (by simp) (hb hby at_128) hrq
            · show Q0 Z q0 p2 p3 ar kk h0 n0 _ T26.heap _
              exact ⟨rfl, N26⟩
          · obtain ⟨_, _, ⟨T29, L29, k29, n29⟩, -, X29, ⟨Lc29, hQ29, l29, y29, z29⟩, st29⟩ := Jvm.LawKit.callS X11 hx (y := (⟨"com/example/gunny/gunny/DecimalsExactlyPinLaw", "pow10", "(I)D"⟩ : MethodName)) hown (mvT hZ (hw _ (List.mem_of_getElem? (i := 9) rfl))) (mvT hZ (hw _ (List.mem_of_getElem? (i := 10) rfl))) (mvT hZ (hw _ (List.mem_of_getElem? (i := 11) rfl))) (mvT hZ (hw _ (List.mem_of_getElem? (i := 12) rfl))) (by decide) (backOf (W := 4) (rmpow l Z a0 hw [] ee h0 n0 Z0 (own_in2 hc69_22 hc105_25)) hZ (hw _ (List.mem_of_getElem? (i := 12) rfl)) (hw _ (List.mem_of_getElem? (i := 11) rfl)) (by decide) (by decide)) (g := (mkF m 135 #[.val (.long q0), .second, .val (.int p2), .val (.int p3), .val (.long nn), .second, .val (.int ee), .val (.double (own_ex nn ee)), .second, .val (.int (1 : Int32)), .val (.double (FP.l2d nn)), .second] [(.int ee), (.double (FP.l2d nn)), (.double (own_ex nn ee))])) rfl (by rw [hml]; rfl) (argsL := [(.int ee)]) (rest := [(.double (FP.l2d nn)), (.double (own_ex nn ee))]) (lenOf pd_1 rfl) rfl (by show 2 * 0 + _ ≤ _; exact Nat.le_of_eq rfl) (hb hby at_135) (fun _ _ => ⟨rfl, e11, (by decide : 0 + 1 ≤ _), (by decide : 0 + 23 ≤ _)⟩)
            dsimp only [Pt.U, Pt.locs, Pt.cells, Pt.slots] at X29 l29 y29 z29 st29 hQ29
            subst l29 y29 z29
            obtain ⟨rfl, Nq29, Kq29⟩ := hQ29
            have N29 := Fr.app N11 Nq29
            have Z30 : n0 ≤ T29.heap.size := Nat.le_trans Z0 Kq29.1
            have pre31 : ∀ t, Steps p.tables e below (T29.setTop (mkF m 148 #[.val (.long q0), .second, .val (.int p2), .val (.int p3), .val (.long nn), .second, .val (.int ee), .val (.double (own_ex nn ee)), .second, .val (.int (1 : Int32)), .val (.double (FP.l2d nn)), .second] [(.int (1 : Int32))])) t → Steps p.tables e below (s₁.setTop (entryFrame m #[(.long q0), (.int p2), (.int p3)] maxLocals)) t := fun t k => by
              refine pre24 t ?_
              show Steps p.tables e below (T11.setTop (mkF m 105 #[.val (.long q0), .second, .val (.int p2), .val (.int p3), .val (.long nn), .second, .val (.int ee), .val (.double (own_ex nn ee)), .second, .val (.int (1 : Int32)), .val (.double (FP.l2d nn)), .second] [(.int ee)])) _
              refine XS.ifYes X11.here hx rfl (pc0 := 105) (pc' := 129) rfl (hb hby at_105) rfl ((if0 _ _).trans (flt hc105_25).2.1) (by decide) (by decide) ?_
              show Steps p.tables e below (T11.setTop (mkF m 129 #[.val (.long q0), .second, .val (.int p2), .val (.int p3), .val (.long nn), .second, .val (.int ee), .val (.double (own_ex nn ee)), .second, .val (.int (1 : Int32)), .val (.double (FP.l2d nn)), .second] [])) _
              refine XS.dload X11.here hx rfl (hb hby at_129) rfl ?_
              show Steps p.tables e below (T11.setTop (mkF m 131 #[.val (.long q0), .second, .val (.int p2), .val (.int p3), .val (.long nn), .second, .val (.int ee), .val (.double (own_ex nn ee)), .second, .val (.int (1 : Int32)), .val (.double (FP.l2d nn)), .second] [(.double (own_ex nn ee))])) _
              refine XS.dload X11.here hx rfl (hb hby at_131) rfl ?_
              show Steps p.tables e below (T11.setTop (mkF m 133 #[.val (.long q0), .second, .val (.int p2), .val (.int p3), .val (.long nn), .second, .val (.int ee), .val (.double (own_ex nn ee)), .second, .val (.int (1 : Int32)), .val (.double (FP.l2d nn)), .second] [(.double (FP.l2d nn)), (.double (own_ex nn ee))])) _
              refine XS.iload X11.here hx rfl (hb hby at_133) rfl ?_
              show Steps p.tables e below (T11.setTop (mkF m 135 #[.val (.long q0), .second, .val (.int p2), .val (.int p3), .val (.long nn), .second, .val (.int ee), .val (.double (own_ex nn ee)), .second, .val (.int (1 : Int32)), .val (.double (FP.l2d nn)), .second] [(.int ee), (.double (FP.l2d nn)), (.double (own_ex nn ee))])) _
              refine st29 _ ?_
              show Steps p.tables e below (T29.setTop (mkF m 138 #[.val (.long q0), .second, .val (.int p2), .val (.int p3), .val (.long nn), .second, .val (.int ee), .val (.double (own_ex nn ee)), .second, .val (.int (1 : Int32)), .val (.double (FP.l2d nn)), .second] [(.double (own_pw ee)), (.double (FP.l2d nn)), (.double (own_ex nn ee))])) _
              refine XS.dmulS X29.here hx rfl (hb hby at_138) rfl (own_mul _ (own_in2 hc69_22 hc105_25)) rfl ?_
              show Steps p.tables e below (T29.setTop (mkF m 139 #[.val (.long q0), .second, .val (.int p2), .val (.int p3), .val (.long nn), .second, .val (.int ee), .val (.double (own_ex nn ee)), .second, .val (.int (1 : Int32)), .val (.double (FP.l2d nn)), .second] [(.double (FP.dmul (FP.l2d nn) (own_pw ee))), (.double (own_ex nn ee))])) _
              refine XS.dcmpS X29.here hx rfl (hb hby at_139) rfl (v := (0 : Int32)) (dcmpV_eq (own_x6 hc46_13 hc55_16 hc62_19 hc69_22 hc105_25) (by rw [own_x6 hc46_13 hc55_16 hc62_19 hc69_22 hc105_25]; exact own_mul _ (own_in2 hc69_22 hc105_25)) _) ?_
              show Steps p.tables e below (T29.setTop (mkF m 140 #[.val (.long q0), .second, .val (.int p2), .val (.int p3), .val (.long nn), .second, .val (.int ee), .val (.double (own_ex nn ee)), .second, .val (.int (1 : Int32)), .val (.double (FP.l2d nn)), .second] [(.int (0 : Int32))])) _
              refine XS.ifNo X29.here hx rfl (hb hby at_140) rfl ((if0 _ _).trans (teq (by decide : (0 : Int32) = (0 : Int32))).2) ?_
              show Steps p.tables e below (T29.setTop (mkF m 143 #[.val (.long q0), .second, .val (.int p2), .val (.int p3), .val (.long nn), .second, .val (.int ee), .val (.double (own_ex nn ee)), .second, .val (.int (1 : Int32)), .val (.double (FP.l2d nn)), .second] [])) _
              refine XS.iconst X29.here hx rfl (hb hby at_143) ?_
              show Steps p.tables e below (T29.setTop (mkF m 144 #[.val (.long q0), .second, .val (.int p2), .val (.int p3), .val (.long nn), .second, .val (.int ee), .val (.double (own_ex nn ee)), .second, .val (.int (1 : Int32)), .val (.double (FP.l2d nn)), .second] [(.int (1 : Int32))])) _
              refine XS.goto X29.here hx rfl (pc0 := 144) (pc' := 148) rfl (hb hby at_144) (by decide) (by decide) ?_
              exact k
            obtain ⟨fs, hrq, hrun, hended, hW, hsame⟩ := X29.leave (v := some (.int (1 : Int32))) (fun h => by rw [Bd.returns] at h; cases h)
            refine ⟨_, _, pre31 _ ?_, hrun, hended, _, _, rfl, ?_, ⟨_, rfl⟩, hW, hsame.mono (by decide) (by decide)⟩
            · show Steps p.tables e below (T29.setTop (mkF m 148 #[.val (.long q0), .second, .val (.int p2), .val (.int p3), .val (.long nn), .second, .val (.int ee), .val (.double (own_ex nn ee)), .second, .val (.int (1 : Int32)), .val (.double (FP.l2d nn)), .second] [(.int (1 : Int32))])) _
              exact retN X29 hx (t := .boolean) Bd.returns (by simp) (hb hby at_148) hrq
            · show Q0 Z q0 p2 p3 ar kk h0 n0 _ T29.heap _
              exact ⟨rfl, N29⟩
set_option maxRecDepth 65536 in
set_option maxHeartbeats 40000000 in
theorem comes_1 {Post : Tables → Env → Array Value → State → Outcome → State → Prop} (hpost : ∀ tb e args s v u, (limb_1_1.after args s (.returned v) u = true ∧ limb_1_2.after args s (.returned v) u = true ∧ True) → FrameEnd s (.returned v) u (Jvm.fieldLocs frame_1_writes args s ++ Jvm.arrayLocs frame_1_arrays args s ++ Jvm.staticLocs frame_1_statics s) 16 128 → Post tb e args s (.returned v) u) :
    ArmFor flags0 classFile x code maxLocals ret World_1 tables_1 room_1 Calls_1 rest_1 Pre_1 Post := by
  intro l hfl _ _ p e ha hc hk s m args below hf hA hF happ hP
  obtain ⟨hcalls, hrest, hpre⟩ := hP
  obtain ⟨-, -, -, hnamed, -, -, -, hat⟩ := (Spec.applies_iff hf).mp happ
  obtain ⟨hg, hn⟩ := and_e (Cond.before_iff.mp (show (Jvm.Cond.and given_1 narrow_1).before args s = true from hpre))
  obtain ⟨gc, g0⟩ := and_e hg
  obtain ⟨ga0, g1⟩ := and_e g0
  obtain ⟨ga1, g2⟩ := and_e g1
  have ga2 := g2
  obtain ⟨w0, w1, w2, rfl⟩ : ∃ w0 w1 w2 : Value, args = #[w0, w1, w2] := by
    have hs : args.size = 3 := by simpa [Cond.value, given_1] using gc
    obtain ⟨L⟩ := args
    match L, hs with
    | [w0, w1, w2], _ => exact ⟨w0, w1, w2, rfl⟩
  have hw := fun d (hd : d ∈ tables_1) => atoms_spec (ws := Jvm.Cond.code x code maxLocals ret :: tables_1) hat d (List.mem_cons_of_mem _ hd)
  have hfit : Fit s := fun {y c} hc i hi => by
    obtain ⟨ha, rfl⟩ := Array.getElem?_eq_some_iff.mp hc
    have q := List.all_eq_true.mp ((Array.all_eq_true_iff_forall_mem.mp hF) _ (Array.getElem_mem ha)) i (List.mem_range.mpr hi)
    simpa [Array.getElem?_eq_getElem hi] using q
  obtain ⟨i0, ei0⟩ := isL_v ga0
  obtain rfl : w0 = (.long i0) := Option.some.inj ei0
  obtain ⟨i1, ei1⟩ := is_v ga1
  obtain rfl : w1 = (.int i1) := Option.some.inj ei1
  obtain ⟨i2, ei2⟩ := is_v ga2
  obtain rfl : w2 = (.int i2) := Option.some.inj ei2
  obtain ⟨ha0, hn0⟩ := and_e hn
  obtain ⟨hlen, hn1⟩ := and_e hn0
  obtain ⟨he0, hn2⟩ := and_e hn1
  obtain ⟨he1, hn3⟩ := and_e hn2
  obtain ⟨he2, hn4⟩ := and_e hn3
  obtain ⟨he3, hn5⟩ := and_e hn4
  obtain ⟨he4, hn6⟩ := and_e hn5
  obtain ⟨he5, hn7⟩ := and_e hn6
  obtain ⟨he6, hn8⟩ := and_e hn7
  obtain ⟨he7, hn9⟩ := and_e hn8
  obtain ⟨he8, hn10⟩ := and_e hn9
  obtain ⟨he9, hn11⟩ := and_e hn10
  obtain ⟨he10, hn12⟩ := and_e hn11
  obtain ⟨he11, hn13⟩ := and_e hn12
  obtain ⟨he12, hn14⟩ := and_e hn13
  obtain ⟨he13, hn15⟩ := and_e hn14
  obtain ⟨he14, hn16⟩ := and_e hn15
  obtain ⟨he15, hn17⟩ := and_e hn16
  obtain ⟨he16, hn18⟩ := and_e hn17
  obtain ⟨he17, hn19⟩ := and_e hn18
  obtain ⟨he18, hn20⟩ := and_e hn19
  obtain ⟨he19, hn21⟩ := and_e hn20
  obtain ⟨he20, hn22⟩ := and_e hn21
  obtain ⟨he21, hn23⟩ := and_e hn22
  have he22 := hn23
  obtain ⟨ar, ear⟩ := arr_v ha0
  have S_p := Sta.start ear (Or.inr ⟨(hw _ (List.mem_of_getElem? (i := 3) rfl)), (hw _ (List.mem_of_getElem? (i := 7) rfl))⟩)
  obtain ⟨cl, Acl⟩ := Arr.start ear ha0
  have V_ar : Arv s s.heap ar cl.cls .double (23 : Int32) [(.double (4607182418800017408 : UInt64)), (.double (4621819117588971520 : UInt64)), (.double (4636737291354636288 : UInt64)), (.double (4652007308841189376 : UInt64)), (.double (4666723172467343360 : UInt64)), (.double (4681608360884174848 : UInt64)), (.double (4696837146684686336 : UInt64)), (.double (4711630319722168320 : UInt64)), (.double (4726483295884279808 : UInt64)), (.double (4741671816366391296 : UInt64)), (.double (4756540486875873280 : UInt64)), (.double (4771362005757984768 : UInt64)), (.double (4786511204640096256 : UInt64)), (.double (4801453603149578240 : UInt64)), (.double (4816244402031689728 : UInt64)), (.double (4831355200913801216 : UInt64)), (.double (4846369599423283200 : UInt64)), (.double (4861130398305394688 : UInt64)), (.double (4876203697187506176 : UInt64)), (.double (4891288408196988160 : UInt64)), (.double (4906019910204099648 : UInt64)), (.double (4921056587992461136 : UInt64)), (.double (4936209963552724370 : UInt64))] (.double (0 : UInt64)) := own_tab hfit ear Acl hlen (by exact ⟨own_el ear Acl he0 rfl rfl rfl, own_el ear Acl he1 rfl rfl rfl, own_el ear Acl he2 rfl rfl rfl, own_el ear Acl he3 rfl rfl rfl, own_el ear Acl he4 rfl rfl rfl, own_el ear Acl he5 rfl rfl rfl, own_el ear Acl he6 rfl rfl rfl, own_el ear Acl he7 rfl rfl rfl, own_el ear Acl he8 rfl rfl rfl, own_el ear Acl he9 rfl rfl rfl, own_el ear Acl he10 rfl rfl rfl, own_el ear Acl he11 rfl rfl rfl, own_el ear Acl he12 rfl rfl rfl, own_el ear Acl he13 rfl rfl rfl, own_el ear Acl he14 rfl rfl rfl, own_el ear Acl he15 rfl rfl rfl, own_el ear Acl he16 rfl rfl rfl, own_el ear Acl he17 rfl rfl rfl, own_el ear Acl he18 rfl rfl rfl, own_el ear Acl he19 rfl rfl rfl, own_el ear Acl he20 rfl rfl rfl, own_el ear Acl he21 rfl rfl rfl, own_el ear Acl he22 rfl rfl rfl, trivial⟩)
  obtain ⟨n, o, h1, h2, h3, _, L, rfl, ⟨rfl, N⟩, hq⟩ := rm0 l s _ hw tables_1 i0 i1 i2 ar cl.cls s.heap s.heap.size (Nat.le_refl _) S_p V_ar p e ha hc hk s m _ below hf ((Spec.applies_iff_loose hf).mp happ).1 ⟨rfl, State.Warmed39.refl s, rfl⟩ trivial
  refine ⟨n, _, h1, h2, h3, hpost _ _ _ _ _ _ ⟨Cond.after_iff.mpr rfl, Cond.after_iff.mpr (eq_i res_at (Term.int_eval (1)) rfl), trivial⟩ ⟨hq.1, hq.2.1, (hq.2.2.sift fun y hy => Or.inr (N y hy)).mono (by decide) (by decide)⟩⟩
theorem main_1_1 : Claimed_1_1 := comes_1 fun _ _ _ _ _ _ h hF => ⟨h.1, hF⟩
theorem main_1_2 : Claimed_1_2 := comes_1 fun _ _ _ _ _ _ h hF => ⟨h.2.1, hF⟩
end Jvm.Pilot.@@N@@
namespace Jvm.Pilot.@@N@@
open Jvm Jvm.ClassFile Sem Op Lib Jvm.Free Jvm.Stand Jvm.Pilot.@@N@@.Jvm.D
/-! MADE BY PROGRAM (witnessworld.py) out of the Statement's table words and the real class files: 11 classes; the members and pool entries that the words name. The judged class is class 1, her method 2. -/
namespace start1
open Jvm.ClassFile
def u (s : String) : CpInfo := .utf8 (stringToUtf16 s)
/-- a pool by its gaps: so many unusable entries, then the entry; so many at the end -/
def gap : Nat → List CpInfo → List CpInfo
  | 0, r => r
  | n + 1, r => .unusable :: gap n r
def poolList (es : List (Nat × CpInfo)) (last : Nat) : List CpInfo := es.foldr (fun e r => gap e.1 (e.2 :: r)) (gap last [])
def pool (es : List (Nat × CpInfo)) (last : Nat) : Array CpInfo := ⟨poolList es last⟩
def fileOf (pool : Array CpInfo) (this : Nat) (attrs : Array Attribute := #[]) (ms : Array MethodInfo := #[]) (fl : Nat := 33) (sup : Nat := 0) (ifs : Array Nat := #[]) (fds : Array FieldInfo := #[]) : ClassFile where
  minorVersion := 0
  majorVersion := 65
  constantPool := pool
  accessFlags := fl
  thisClass := this
  superClass := sup
  interfaces := ifs
  fields := fds
  methods := ms
  attributes := attrs
def plain (name : String) (sup : Option ClassId) : Class where
  name := name
  kind := .ordinary
  loader := none
  accessFlags := 33
  super := sup
  interfaces := #[]
  cf := none
  fields := #[]
  methods := #[]
  instanceTypes := #[]
  staticTypes := #[]
  resolved := #[]
  callSites := []
  init := .initialized
  statics := none
  mirror := none

def pool0 : Array CpInfo := pool [(5, u "<init>"), (0, u "()V"), (1, .class_ 10), (1, u "java/lang/Object")] 113

def k0m0 : Method := { name := "<init>", desc := "()V", sig := { parameters := [], returnType := none }, accessFlags := 1, code := none }
/-- java/lang/Object -/
def k0 : Class := { plain "java/lang/Object" none with
  accessFlags := 33
  interfaces := #[]
  cf := some (fileOf pool0 8 #[] #[{ accessFlags := 1, nameIndex := 5, descriptorIndex := 6, attributes := #[] }] 33 0 #[] #[])
  fields := #[]
  methods := #[k0m0]
  instanceTypes := #[]
  staticTypes := #[]
  resolved := Array.replicate 124 none
  statics := none }

def pool1 : Array CpInfo := pool [(2, .class_ 4), (1, u "java/lang/Object"), (0, u "<init>"), (0, u "()V"), (0, .double 4621819117588971520), (1, .double 4636737291354636288), (1, .double 4652007308841189376), (1, .double 4666723172467343360), (1, .double 4681608360884174848), (1, .double 4696837146684686336), (1, .double 4711630319722168320), (1, .double 4726483295884279808), (1, .double 4741671816366391296), (1, .double 4756540486875873280), (1, .double 4771362005757984768), (1, .double 4786511204640096256), (1, .double 4801453603149578240), (1, .double 4816244402031689728), (1, .double 4831355200913801216), (1, .double 4846369599423283200), (1, .double 4861130398305394688), (1, .double 4876203697187506176), (1, .double 4891288408196988160), (1, .double 4906019910204099648), (1, .double 4921056587992461136), (1, .double 4936209963552724370), (1, .long 18014398509481983), (1, .methodref 54 55), (0, .class_ 56), (0, .nameAndType 57 58), (0, u "com/example/gunny/gunny/Decimals"), (0, u "exactly"), (0, u "(JI)D"), (0, .long 9007199254740992), (1, .methodref 62 63), (0, .class_ 64), (0, .nameAndType 65 66), (0, u "com/example/gunny/gunny/DecimalsExactlyPinLaw"), (0, u "pow10"), (0, u "(I)D"), (2, u "law"), (0, u "(JII)Z")] 3

def k1m0 : Method := { name := "<init>", desc := "()V", sig := { parameters := [], returnType := none }, accessFlags := 1, code := none }
def k1c1 : Code := { maxStack := 5, maxLocals := 2, code := method_2_code, exceptionTable := #[], attributes := #[] }
def k1m1 : Method := { name := "pow10", desc := "(I)D", sig := { parameters := [.int], returnType := some .double }, accessFlags := 10, code := some k1c1 }
def k1c2 : Code := { maxStack := 6, maxLocals := 12, code := code, exceptionTable := #[], attributes := #[] }
def k1m2 : Method := { name := "law", desc := "(JII)Z", sig := { parameters := [.long, .int, .int], returnType := some .boolean }, accessFlags := 9, code := some k1c2 }
/-- com/example/gunny/gunny/DecimalsExactlyPinLaw -/
def k1 : Class := { plain "com/example/gunny/gunny/DecimalsExactlyPinLaw" (some 0) with
  accessFlags := 49
  interfaces := #[]
  cf := some (fileOf pool1 62 #[] #[{ accessFlags := 1, nameIndex := 5, descriptorIndex := 6, attributes := #[] }, { accessFlags := 10, nameIndex := 65, descriptorIndex := 66, attributes := #[] }, { accessFlags := 9, nameIndex := 69, descriptorIndex := 70, attributes := #[] }] 49 2 #[] #[])
  fields := #[]
  methods := #[k1m0, k1m1, k1m2]
  instanceTypes := #[]
  staticTypes := #[]
  resolved := Array.replicate 74 none
  statics := none }

def pool2 : Array CpInfo := pool [(2, .class_ 4), (1, u "java/lang/Object"), (0, u "<init>"), (0, u "()V"), (0, .class_ 8), (0, u "com/example/gunny/gunny/Decimals"), (0, .long 9007199254740992), (1, .fieldref 7 12), (0, .nameAndType 13 14), (0, u "POWERS"), (0, u "[D"), (2, .double 9221120237041090560), (3, u "LONG_POWERS"), (0, u "[J"), (20, u "MAX_SHORT_DIGITS"), (0, u "J"), (1, u "MAX_EXACT_DIGITS"), (0, u "NEAR"), (0, u "D"), (2, u "exactly"), (0, u "(JI)D")] 8

def k2m0 : Method := { name := "<init>", desc := "()V", sig := { parameters := [], returnType := none }, accessFlags := 2, code := none }
def k2c1 : Code := { maxStack := 4, maxLocals := 5, code := prog_14_method_2_code, exceptionTable := #[], attributes := #[] }
def k2m1 : Method := { name := "exactly", desc := "(JI)D", sig := { parameters := [.long, .int], returnType := some .double }, accessFlags := 9, code := some k2c1 }
/-- com/example/gunny/gunny/Decimals -/
def k2 : Class := { plain "com/example/gunny/gunny/Decimals" (some 0) with
  accessFlags := 49
  interfaces := #[]
  cf := some (fileOf pool2 7 #[] #[{ accessFlags := 2, nameIndex := 5, descriptorIndex := 6, attributes := #[] }, { accessFlags := 9, nameIndex := 51, descriptorIndex := 52, attributes := #[] }] 49 2 #[] #[{ accessFlags := 26, nameIndex := 43, descriptorIndex := 44, attributes := #[] }, { accessFlags := 26, nameIndex := 46, descriptorIndex := 44, attributes := #[] }, { accessFlags := 26, nameIndex := 47, descriptorIndex := 48, attributes := #[] }, { accessFlags := 26, nameIndex := 13, descriptorIndex := 14, attributes := #[] }, { accessFlags := 26, nameIndex := 21, descriptorIndex := 22, attributes := #[] }])
  fields := #[{ name := "MAX_SHORT_DIGITS", type := .long, accessFlags := 26, slot := 0, constantValue := 0 }, { name := "MAX_EXACT_DIGITS", type := .long, accessFlags := 26, slot := 1, constantValue := 0 }, { name := "NEAR", type := .double, accessFlags := 26, slot := 2, constantValue := 0 }, { name := "POWERS", type := (.array .double), accessFlags := 26, slot := 3, constantValue := 0 }, { name := "LONG_POWERS", type := (.array .long), accessFlags := 26, slot := 4, constantValue := 0 }]
  methods := #[k2m0, k2m1]
  instanceTypes := #[]
  staticTypes := #[.long, .long, .double, (.array .double), (.array .long)]
  resolved := Array.replicate 61 none
  statics := some 0 }

def pool3 : Array CpInfo := pool [(1, u "java/lang/Cloneable"), (0, .class_ 1), (0, u "java/lang/Object"), (0, .class_ 3)] 3

/-- java/lang/Cloneable -/
def k3 : Class := { plain "java/lang/Cloneable" (some 0) with
  accessFlags := 1537
  interfaces := #[]
  cf := some (fileOf pool3 2 #[] #[] 1537 4 #[] #[])
  fields := #[]
  methods := #[]
  instanceTypes := #[]
  staticTypes := #[]
  resolved := Array.replicate 8 none
  statics := none }

def pool4 : Array CpInfo := pool [(1, u "java/io/Serializable"), (0, .class_ 1), (0, u "java/lang/Object"), (0, .class_ 3)] 3

/-- java/io/Serializable -/
def k4 : Class := { plain "java/io/Serializable" (some 0) with
  accessFlags := 1537
  interfaces := #[]
  cf := some (fileOf pool4 2 #[] #[] 1537 4 #[] #[])
  fields := #[]
  methods := #[]
  instanceTypes := #[]
  staticTypes := #[]
  resolved := Array.replicate 8 none
  statics := none }

/-- the primitive byte -/
def k5 : Class := { plain "byte" none with kind := .primitive 'B', accessFlags := 0x411 }
/-- [B -/
def k6 : Class := { plain "[B" (some 0) with kind := .array 5 .byte, interfaces := #[3, 4], accessFlags := 1041 }

/-- the primitive double -/
def k7 : Class := { plain "double" none with kind := .primitive 'D', accessFlags := 0x411 }
/-- [D -/
def k8 : Class := { plain "[D" (some 0) with kind := .array 7 .double, interfaces := #[3, 4], accessFlags := 1041 }

/-- the primitive int -/
def k9 : Class := { plain "int" none with kind := .primitive 'I', accessFlags := 0x411 }
/-- [I -/
def k10 : Class := { plain "[I" (some 0) with kind := .array 9 .int, interfaces := #[3, 4], accessFlags := 1041 }

def heap : Heap := #[{ cls := 2, slots := #[.long 0, .long 0, .double 0, .ref 1, .null], vm := .statics 2 },
  { cls := 8, slots := #[.double 4607182418800017408, .double 4621819117588971520, .double 4636737291354636288, .double 4652007308841189376, .double 4666723172467343360, .double 4681608360884174848, .double 4696837146684686336, .double 4711630319722168320, .double 4726483295884279808, .double 4741671816366391296, .double 4756540486875873280, .double 4771362005757984768, .double 4786511204640096256, .double 4801453603149578240, .double 4816244402031689728, .double 4831355200913801216, .double 4846369599423283200, .double 4861130398305394688, .double 4876203697187506176, .double 4891288408196988160, .double 4906019910204099648, .double 4921056587992461136, .double 4936209963552724370], vm := .none }]
def classes : Array Class := #[k0, k1, k2, k3, k4, k5, k6, k7, k8, k9, k10]
def interned : List (Array UInt16 × Addr) := []
def slotsUsed : Nat := 28
def theMethod : MethodId := ⟨1, 2⟩
def args0 : Array Value := #[.long 5, .int 2, .int 0]
def aboutOver (below : List Frame) : State where
  vm := { classes := classes, interned := interned.toArray }
  heap := heap
  slotsUsed := slotsUsed
  threads := #[{ frames := .invoking theMethod args0 :: below }]
def below0 : List Frame := [.native { method := ⟨0, 0⟩, args := #[] }]
def about1 : State := aboutOver below0
def p0 : Program := .bare "" "" ""
def e0 : Env := launch0.env 0 0 0
theorem w_frames : about1.frames = Frame.invoking theMethod args0 :: below0 := rfl
set_option maxRecDepth 65536 in
theorem w_args : argsFit about1.vm theMethod args0 = true := by decide +kernel
set_option maxRecDepth 65536 in
theorem w_heap : heapFits about1 = true := by decide +kernel
set_option maxRecDepth 65536 in
theorem w_runnable : about1.curStatus? = some .runnable := by decide +kernel
set_option maxRecDepth 65536 in
theorem w_alone : about1.alone = true := by decide +kernel
set_option maxRecDepth 65536 in
theorem w_named : about1.methodNamed? x = some theMethod := by decide +kernel
set_option maxRecDepth 65536 in
theorem w_hears : about1.hears theMethod below0 = true := by decide +kernel
set_option maxRecDepth 65536 in
theorem w_ripe : about1.ripe theMethod args0 below0 = true := by decide +kernel
theorem w_running : about1.status = .running := rfl
set_option maxRecDepth 65536 in
theorem w_room : about1.hasRoom e0.platform room_1 = true :=
  launch0.hasRoom_least _ room_1 (by decide +kernel) (by decide +kernel) (by decide +kernel) (by decide +kernel) (by decide +kernel) (by decide +kernel)
theorem allAtoms_all (ts : List Jvm.Cond) (a : Array Jvm.Value) (st : Jvm.State) : (allAtoms ts).before a st = ts.all (fun c => c.before a st) := by
  induction ts with
  | nil => rfl
  | cons c t ih =>
    show (Jvm.Cond.and c (allAtoms t)).before a st = _
    rw [Jvm.Cond.before_and, ih, List.all_cons]
def words1 : List Jvm.Cond := Jvm.Cond.code x code maxLocals ret :: tables_1
/-- a 'code' word, met by the world's own term for the bytes: nothing is compared byte by byte -/
theorem code_word {y : MethodName} {bytes : ByteArray} {mx : Nat} {rt : Option FieldType} {a : Array Value} {s : State} {m : MethodId} {meth : Method} {c : Code} (h1 : s.methodNamed? y = some m) (h2 : s.vm.method? m = some meth) (h3 : meth.code = some c) (h4 : c.code = bytes)
    (h5 : (c.maxLocals == mx && c.exceptionTable.isEmpty && decide (c.maxStack ≤ mostOperands) && decide (meth.sig.returnType = rt) && !meth.locks && decide (parseMethodDescriptor y.desc = some meth.sig)) = true) : (Jvm.Cond.code y bytes mx rt).before a s = true := by
  simp only [Bool.and_eq_true, beq_iff_eq, Bool.not_eq_true', decide_eq_true_eq] at h5
  obtain ⟨⟨⟨⟨⟨g1, g2⟩, g3⟩, g4⟩, g5⟩, g6⟩ := h5
  simp [Cond.before, Cond.holds, Cond.value, h1, h2, h3, h4, g1, g2, g3, g4, g5, g6]
def isCode : Jvm.Cond → Bool
  | .code _ _ _ _ => true
  | _ => false
theorem all_split {L : List Jvm.Cond} {P : Jvm.Cond → Bool} (h1 : L.all (fun c => isCode c || P c) = true) (h2 : ∀ c ∈ L.filter isCode, P c = true) : L.all P = true := by
  refine List.all_eq_true.mpr fun c hc => ?_
  have h := List.all_eq_true.mp h1 c hc
  rcases Bool.eq_false_or_eq_true (isCode c) with hi | hi
  · exact h2 c (List.mem_filter.mpr ⟨hc, hi⟩)
  · simpa [hi] using h
set_option maxRecDepth 65536 in
theorem w_c0 : (Jvm.Cond.code x code maxLocals ret).before args0 about1 = true := code_word (m := ⟨1, 2⟩) (meth := k1m2) (c := k1c2) (by decide +kernel) rfl rfl rfl (by decide +kernel)
set_option maxRecDepth 65536 in
theorem w_c1 : (Jvm.Cond.code ({ cls := "com/example/gunny/gunny/Decimals", name := "exactly", desc := "(JI)D" } : Jvm.MethodName) prog_14_method_2_code (5 : Nat) (Option.some Jvm.ClassFile.FieldType.double)).before args0 about1 = true := code_word (m := ⟨2, 1⟩) (meth := k2m1) (c := k2c1) (by decide +kernel) rfl rfl rfl (by decide +kernel)
set_option maxRecDepth 65536 in
theorem w_c2 : (Jvm.Cond.code ({ cls := "com/example/gunny/gunny/DecimalsExactlyPinLaw", name := "pow10", desc := "(I)D" } : Jvm.MethodName) method_2_code (2 : Nat) (Option.some Jvm.ClassFile.FieldType.double)).before args0 about1 = true := code_word (m := ⟨1, 1⟩) (meth := k1m1) (c := k1c1) (by decide +kernel) rfl rfl rfl (by decide +kernel)
def codes1 : List Jvm.Cond := [Jvm.Cond.code x code maxLocals ret, Jvm.Cond.code ({ cls := "com/example/gunny/gunny/Decimals", name := "exactly", desc := "(JI)D" } : Jvm.MethodName) prog_14_method_2_code (5 : Nat) (Option.some Jvm.ClassFile.FieldType.double), Jvm.Cond.code ({ cls := "com/example/gunny/gunny/DecimalsExactlyPinLaw", name := "pow10", desc := "(I)D" } : Jvm.MethodName) method_2_code (2 : Nat) (Option.some Jvm.ClassFile.FieldType.double)]
set_option maxRecDepth 65536 in
theorem codes_eq : words1.filter isCode = codes1 := rfl
theorem w_codes : ∀ c ∈ words1.filter isCode, c.before args0 about1 = true := by
  rw [codes_eq]
  intro c hc
  simp only [codes1, List.mem_cons, List.not_mem_nil, or_false] at hc
  rcases hc with rfl | rfl | rfl
  · exact w_c0
  · exact w_c1
  · exact w_c2
set_option maxRecDepth 65536 in
theorem w_t1 : (words1.take 24).all (fun c => isCode c || c.before args0 about1) = true := by decide +kernel
set_option maxRecDepth 65536 in
theorem w_t2 : (words1.drop 24).all (fun c => isCode c || c.before args0 about1) = true := by decide +kernel
theorem w_tables : (allAtoms (Jvm.Cond.code x code maxLocals ret :: tables_1)).before args0 about1 = true := by
  rw [allAtoms_all]
  show words1.all (fun c => c.before args0 about1) = true
  refine all_split ?_ w_codes
  rw [← List.take_append_drop 24 words1, List.all_append, w_t1, w_t2]
  rfl
set_option maxRecDepth 65536 in
theorem w_case : (Jvm.Cond.and given_1 narrow_1).before args0 about1 = true := by decide +kernel
theorem w_applies : (headSpec (Jvm.Cond.code x code maxLocals ret :: tables_1) room_1).applies x e0.platform about1 = true :=
  (Spec.applies_iff w_frames).mpr ⟨w_running, w_runnable, w_alone, w_named, w_hears, w_ripe, w_room, w_tables⟩
theorem atStart : AtStart classFile x code maxLocals ret World_1 tables_1 room_1 Calls_1 rest_1 Pre_1 launch0 p0 e0 about1 theMethod args0 below0 :=
  ⟨lists_1, trivial, launch0.admits_env _ _ _, launch0.least_env, fairChoices_fair.cas, fairChoices_fair.clock, w_frames, w_args, w_heap, w_applies, trivial, trivial, w_case⟩
end start1
theorem witness_1 : WitnessClaimed_1 := ⟨start1.p0, start1.e0, start1.about1, start1.theMethod, start1.args0, start1.below0, start1.atStart⟩
end Jvm.Pilot.@@N@@
