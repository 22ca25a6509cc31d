import JvmDerived
import JvmDerived.Pilot.@@N@@Statement
import JvmDerived.Pilot.@@N@@Code
set_option linter.unusedVariables false
set_option linter.unusedSimpArgs false
namespace Jvm.RoadKit
open Sem ClassFile Op Lib Jvm.Stand Jvm.Free Jvm.LawKit
section New
variable {p : Program} {l : Launch} {e : Env} {R : Room} {s : State} {m : MethodId} {args : Array Value} {below : List Frame} {meth : Method} {c : Code} {T : State} {locs : List Loc} {cells slots : Nat}
theorem retI (X : Stand p l e R s m args below meth c T locs cells slots) (hx : p.tables.exec = Jvm.exec) {pc : Nat} {Ls : Array Slot} {z : Int32} {rest : List Value} (hret : meth.sig.returnType = some .int) (hd : decode c.code pc = .ok (.ireturn, 1)) {fs : List Frame}
    (hl : ∀ (f : JFrame) (acts : List Action), f.method = m → f.locked = none → f.entered = [] → (doReturn e (T.setTop f) acts (some (.int z))).1 = T.setFrames fs) : Steps p.tables e below (T.setTop (mkF m pc Ls (.int z :: rest))) (T.setFrames fs) := by
  have hm' : T.vm.method? m = some meth := X.method'
  have hn : narrow .int (.int z) = .int z := rfl
  show Steps p.tables e below (T.setTop { method := m, pc := pc, locals := Ls, stack := _ :: rest, locked := none }) _
  jvm_step X.here [X.here.top, hx, hd, hm', hret, hn]
  first | (intro acts; rw [hl _ acts rfl rfl rfl]) | rw [hl _ _ rfl rfl rfl]
  exact Steps.refl _
theorem own_retN (X : Stand p l e R s m args below meth c T locs cells slots) (hx : p.tables.exec = Jvm.exec) {pc : Nat} {Ls : Array Slot} {z z' : Int32} {t : FieldType} {rest : List Value} (hret : meth.sig.returnType = some t) (ht : t = .boolean ∨ t = .byte ∨ t = .char ∨ t = .short)
    (hd : decode c.code pc = .ok (.ireturn, 1)) (hz : nar t z = z') {fs : List Frame} (hl : ∀ (f : JFrame) (acts : List Action), f.method = m → f.locked = none → f.entered = [] → (doReturn e (T.setTop f) acts (some (.int z'))).1 = T.setFrames fs) :
    Steps p.tables e below (T.setTop (mkF m pc Ls (.int z :: rest))) (T.setFrames fs) := by
  subst hz; exact retN X hx hret ht hd hl
end New
theorem own_nar_if {P : Prop} [Decidable P] {a b : Int32} (ha : nar .boolean a = a) (hb : nar .boolean b = b) : nar .boolean (if P then a else b) = if P then a else b := by
  split
  · exact ha
  · exact hb
theorem own_b_lt (x y : Int32) : (if if_icmp.holds .lt x y = true then (0 : Int32) else 1) = if x < y then 0 else 1 := by
  by_cases h : x < y
  · rw [(tlt h).1]; simp [h]
  · rw [(flt h).1]; simp [h]
theorem own_b_ge (x y : Int32) : (if if_icmp.holds .ge x y = true then (0 : Int32) else 1) = if x < y then 1 else 0 := by
  by_cases h : x < y
  · rw [(tlt h).2.1]; simp [h]
  · rw [(flt h).2.1]; simp [h]
theorem own_b_gt (x y : Int32) : (if if_icmp.holds .gt x y = true then (0 : Int32) else 1) = if y < x then 0 else 1 := by
  by_cases h : y < x
  · rw [(tlt h).2.2.1]; simp [h]
  · rw [(flt h).2.2.1]; simp [h]
theorem own_b_le (x y : Int32) : (if if_icmp.holds .le x y = true then (0 : Int32) else 1) = if y < x then 1 else 0 := by
  by_cases h : y < x
  · rw [(tlt h).2.2.2]; simp [h]
  · rw [(flt h).2.2.2]; simp [h]
theorem own_b_eq (x y : Int32) : (if if_icmp.holds .eq x y = true then (0 : Int32) else 1) = if x = y then 0 else 1 := by
  by_cases h : x = y
  · rw [(teq h).1]; simp [h]
  · rw [(feq h).1]; simp [h]
theorem own_b_ne (x y : Int32) : (if if_icmp.holds .ne x y = true then (0 : Int32) else 1) = if x = y then 1 else 0 := by
  by_cases h : x = y
  · rw [(teq h).2]; simp [h]
  · rw [(feq h).2]; simp [h]
theorem own_boolC {tb : Tables} [Ours tb] {e : Env} {below : List Frame} {T target : State} {m : MethodId} {c : Code} {g : JFrame} (h : At T m c below) (hx : tb.exec = Jvm.exec) (hg : g.method = m) {cd : ClassFile.Cond} {x y z : Int32} {rest : List Value}
    (hd0 : decode c.code g.pc = .ok (.if_icmp cd 7, 3)) (hd1 : decode c.code (g.pc + 3) = .ok (.iconst 1, 1)) (hd2 : decode c.code (g.pc + 4) = .ok (.goto 4, 3)) (hd3 : decode c.code (g.pc + 7) = .ok (.iconst 0, 1)) (hs : g.stack = .int y :: .int x :: rest)
    (hz : (if if_icmp.holds cd x y = true then (0 : Int32) else 1) = z) (hr : Steps tb e below (T.setTop { g with pc := g.pc + 8, stack := .int z :: rest }) target) : Steps tb e below (T.setTop g) target := by
  by_cases hc : if_icmp.holds cd x y = true
  · rw [if_pos hc] at hz; subst hz
    exact XS.icmpYes h hx hg (pc0 := g.pc) (pc' := g.pc + 7) rfl hd0 hs hc (by omega) (by omega) (XS.iconst h hx hg hd3 hr)
  · rw [if_neg hc] at hz; subst hz
    exact XS.icmpNo h hx hg hd0 hs (by simpa using hc) (XS.iconst h hx hg hd1 (XS.goto h hx hg (pc0 := g.pc + 4) (pc' := g.pc + 8) rfl hd2 (by omega) (by omega) hr))
theorem own_boolI {tb : Tables} [Ours tb] {e : Env} {below : List Frame} {T target : State} {m : MethodId} {c : Code} {g : JFrame} (h : At T m c below) (hx : tb.exec = Jvm.exec) (hg : g.method = m) {cd : ClassFile.Cond} {x z : Int32} {rest : List Value}
    (hd0 : decode c.code g.pc = .ok (.ifCond cd 7, 3)) (hd1 : decode c.code (g.pc + 3) = .ok (.iconst 1, 1)) (hd2 : decode c.code (g.pc + 4) = .ok (.goto 4, 3)) (hd3 : decode c.code (g.pc + 7) = .ok (.iconst 0, 1)) (hs : g.stack = .int x :: rest)
    (hz : (if if_icmp.holds cd x 0 = true then (0 : Int32) else 1) = z) (hr : Steps tb e below (T.setTop { g with pc := g.pc + 8, stack := .int z :: rest }) target) : Steps tb e below (T.setTop g) target := by
  by_cases hc : if_icmp.holds cd x 0 = true
  · rw [if_pos hc] at hz; subst hz
    exact XS.ifYes h hx hg (pc0 := g.pc) (pc' := g.pc + 7) rfl hd0 hs ((if0 _ _).trans hc) (by omega) (by omega) (XS.iconst h hx hg hd3 hr)
  · rw [if_neg hc] at hz; subst hz
    exact XS.ifNo h hx hg hd0 hs ((if0 _ _).trans (by simpa using hc)) (XS.iconst h hx hg hd1 (XS.goto h hx hg (pc0 := g.pc + 4) (pc' := g.pc + 8) rfl hd2 (by omega) (by omega) hr))
theorem own_selects_private {y : MethodName} {s : State} {args : Array Value} {n : Nat} (hins : (Cond.instantiable y.cls n).before args s = true) (hpriv : (Cond.privateMethod y).before args s = true) (hinst : (Cond.instanceMethod y).before args s = true) (hy : y.cls ≠ "java/lang/invoke/MethodHandle" ∧ y.cls ≠ "java/lang/invoke/VarHandle" := by decide) :
    (Cond.selects y.cls y y).before args s = true := by
  obtain ⟨c, k, hc, hk, -, hniab, -, -⟩ := Cond.instantiable_spec hins
  have hni : k.isInterface = false := (Bool.or_eq_false_iff.mp hniab).1
  obtain ⟨mk, methM, hnamed, hmethM, -, -⟩ := Cond.instanceMethod_spec hinst
  have hfound : s.methodFound? y.cls y.name y.desc = some mk := State.methodFound?_of_named hnamed hy
  have hcls : mk.cls = c := Option.some.inj ((findClass_of_methodNamed hnamed).symm.trans hc)
  have hsel : selectMethod {} s.vm c mk = .method mk := selectMethod_private hmethM (Cond.privateMethod_at hpriv mk methM hnamed hmethM)
  simp only [Cond.before, Cond.holds, Cond.value, hc, hfound, hnamed, hsel, hcls, hk]
  simp; exact hni
theorem own_sta_keep {Z : State} {h h' : Heap} {C n d : String} {v : Value} {ws : List Addr} (F : Sta Z h C n d v) (K : Keep h h' ws) (q : ∀ x ∈ ws, ∀ cell : Cell, h[x]? = some cell → cell.vm.isStatics = false) : Sta Z h' C n d v := by
  obtain ⟨cf, i, k, f, st, cell, h1, h2, h3, h4, h5, h6, h7⟩ := F
  refine ⟨cf, i, k, f, st, cell, h1, h2, h3, h4, K.2.1 _ _ h5 (fun hm => ?_), h6, h7⟩
  rw [q _ hm _ h5] at h6; cases h6
theorem own_plain_exa {Z : State} {h : Heap} {a : Addr} {C : String} (F : Exa Z h a C) : ∀ cell : Cell, h[a]? = some cell → cell.vm.isStatics = false := fun cell hc => by
  obtain ⟨c, k, h1, -, -, h4, -⟩ := F
  cases h1.symm.trans hc; exact h4
end Jvm.RoadKit
namespace Jvm.Pilot.@@N@@
open Jvm Jvm.ClassFile Sem Op Lib Jvm.Free Jvm.Stand Jvm.LawKit Jvm.RoadKit Bundle Jvm.Pilot.@@N@@.Jvm.D
def own_b (vs : List Value) (dv : Value) (j : Int32) : Int32 := match vs.getD j.toNatClampNeg dv with | .int x => x | _ => 0
def own_after (vs : List Value) (dv : Value) (z s : Int32) : Int32 :=
  if ¬ ((0 : Int32) < s) ∧ (0 : Int32) < z ∧ own_b vs dv (0 : Int32) = (10 : Int32) then 1 else if ¬ ((1 : Int32) < s) ∧ (1 : Int32) < z ∧ own_b vs dv (1 : Int32) = (10 : Int32) then 2 else if ¬ ((2 : Int32) < s) ∧ (2 : Int32) < z ∧ own_b vs dv (2 : Int32) = (10 : Int32) then 3 else if ¬ ((3 : Int32) < s) ∧ (3 : Int32) < z ∧ own_b vs dv (3 : Int32) = (10 : Int32) then 4 else z
def own_rd (Z : State) (h : Heap) (ob ar : Addr) (z s : Int32) (ln : Addr) : Prop := Exa Z h ob "quorumkeep/store/Messages$Reader" ∧ Fld Z h ob "quorumkeep/store/Messages$Reader" "line" "[B" (.ref ln) ∧ Fld Z h ob "quorumkeep/store/Messages$Reader" "length" "J" (.long (z.toInt64)) ∧ Fld Z h ob "quorumkeep/store/Messages$Reader" "budget" "Lquorumkeep/base/HeapBudget;" .null ∧ Fld Z h ob "quorumkeep/store/Messages$Reader" "buffer" "[B" (.ref ar) ∧ Fld Z h ob "quorumkeep/store/Messages$Reader" "end" "I" (.int z) ∧ Fld Z h ob "quorumkeep/store/Messages$Reader" "read" "J" (.long (z.toInt64)) ∧ Fld Z h ob "quorumkeep/store/Messages$Reader" "start" "I" (.int s) ∧ Fld Z h ob "quorumkeep/store/Messages$Reader" "held" "I" (.int (0 : Int32)) ∧ Fld Z h ob "quorumkeep/store/Messages$Reader" "atEnd" "Z" (.int (0 : Int32)) ∧ (∃ x : Int32, Fld Z h ob "quorumkeep/store/Messages$Reader" "size" "I" (.int x)) ∧ (∃ x : Int32, Fld Z h ob "quorumkeep/store/Messages$Reader" "keepable" "I" (.int x))
theorem own_bat {c : Cell} {vs : List Value} {dv : Value} {j : Int32} (G : ∀ i, i < c.slots.size → fits .byte (vs.getD i dv) = true) (hin : ¬ (j < 0 ∨ c.slots.size ≤ j.toNatClampNeg)) : vs.getD j.toNatClampNeg dv = .int (own_b vs dv j) := by
  obtain ⟨x, e⟩ := fit_I (G j.toNatClampNeg (Nat.lt_of_not_le fun q => hin (Or.inr q))) (by simp)
  simp only [own_b, e]
theorem own_ne_arv {Z : State} {h : Heap} {a b : Addr} {C : String} {a0 : Array Value} {n : Nat} {k : ClassId} {ty : FieldType} {z : Int32} {vs : List Value} {dv : Value} (E : Exa Z h a C) (wi : (Cond.instantiable C n).before a0 Z = true) (F : Arv Z h b k ty z vs dv) : a ≠ b := by
  obtain ⟨c, A, -⟩ := F
  exact ne_arr E wi A
theorem own_none {s : State} {args : Array Value} {t : Term} {a : Addr} {c : Cell} (hf : Fit s) (ev : t.eval args s none [] s = some (.ref a)) (A : Arr s s.heap a c .byte) (hl : (Cond.eq (Term.length t) (Term.int (0 : Int32))).value args s none s [] = some true) : Arv s s.heap a c.cls .byte (0 : Int32) [] (.int (0 : Int32)) := by
  have hat : s.arrayAt? a = some c := Arr.fin (Vm.Alike.refl _) A
  have h0 : (Term.int (0 : Int32)).eval args s none [] s = some (.int 0) := Term.int_eval 0
  have e1 : (Term.length t).eval args s none [] s = if c.slots.size < 2 ^ 31 then some (.int c.slots.size.toInt32) else none := by simp [Term.eval, ev, hat]
  by_cases hs : c.slots.size < 2 ^ 31
  · rw [if_pos hs] at e1
    have hz : c.slots.size.toInt32 = 0 := by simpa [Cond.value, e1, h0] using hl
    exact Arv.start hf A hs hz (by decide) rfl trivial
  · rw [if_neg hs] at e1
    simp [Cond.value, e1] at hl
theorem own_i (z : Int32) (n : Int32) (h : z.toInt = n.toInt) : z = n := Int32.toInt_inj.mp h
theorem own_k5 (a : Int32) : ((a &&& (2147483647 : Int32)) % (5 : Int32)) = 0 ∨ ((a &&& (2147483647 : Int32)) % (5 : Int32)) = 1 ∨ ((a &&& (2147483647 : Int32)) % (5 : Int32)) = 2 ∨ ((a &&& (2147483647 : Int32)) % (5 : Int32)) = 3 ∨ ((a &&& (2147483647 : Int32)) % (5 : Int32)) = 4 := by
  have h1 := c_and a (2147483647 : Int32) (by decide)
  have h2 := (c_irem (a &&& (2147483647 : Int32)) (5 : Int32) 5 (by decide)).1 h1.1
  generalize ((a &&& (2147483647 : Int32)) % (5 : Int32)) = k at *
  have h3 : k.toInt = 0 ∨ k.toInt = 1 ∨ k.toInt = 2 ∨ k.toInt = 3 ∨ k.toInt = 4 := by omega
  rcases h3 with h | h | h | h | h
  · exact Or.inl (own_i k 0 h)
  · exact Or.inr (Or.inl (own_i k 1 h))
  · exact Or.inr (Or.inr (Or.inl (own_i k 2 h)))
  · exact Or.inr (Or.inr (Or.inr (Or.inl (own_i k 3 h))))
  · exact Or.inr (Or.inr (Or.inr (Or.inr (own_i k 4 h))))
theorem own_zb {z : Int32} (h : z = 0 ∨ z = 1 ∨ z = 2 ∨ z = 3 ∨ z = 4) : 0 ≤ z.toInt ∧ z.toInt ≤ 4 := by
  rcases h with rfl | rfl | rfl | rfl | rfl <;> decide
theorem own_z0 {z : Int32} (h : z = 0 ∨ z = 1 ∨ z = 2 ∨ z = 3 ∨ z = 4) : ¬ (z < 0) := by
  rcases h with rfl | rfl | rfl | rfl | rfl <;> decide
theorem own_c : (0 : Int32).toInt = 0 ∧ (1 : Int32).toInt = 1 ∧ (2 : Int32).toInt = 2 ∧ (3 : Int32).toInt = 3 ∧ (4 : Int32).toInt = 4 ∧ (4194306 : Int32).toInt = 4194306 := by decide
theorem own_mm (a b : Int64) : (a + b) - b = a := by grind
theorem own_lc (x : Int64) : lcmpW x x = (0 : Int32) := (lw_eq x x).mpr rfl
theorem own_l0 {z : Int32} (h : ¬ (z < 0)) : ¬ (lcmpW (z.toInt64) (0 : Int64) < (0 : Int32)) := by
  rw [lw_lt, Int64.lt_iff_toInt_lt, c_i2l]
  rw [Int32.lt_iff_toInt_lt] at h
  have e : (0 : Int64).toInt = 0 := by decide
  have k := own_c
  omega
theorem own_le0 (z : Int32) : lcmpW ((z - (0 : Int32)).toInt64) (z.toInt64) = (0 : Int32) := by
  rw [Int32.sub_zero]; exact own_lc _
theorem own_lz {z s : Int32} (h : s = z) : lcmpW ((z - s).toInt64) (0 : Int64) = (0 : Int32) := by
  subst h; rw [Int32.sub_self]; decide
theorem own_lnz {z s : Int32} (h : ¬ (s = z)) : ¬ (lcmpW ((z - s).toInt64) (0 : Int64) = (0 : Int32)) := by
  intro q
  rw [lw_eq, ← Int64.toInt_inj, c_i2l] at q
  rw [← Int32.toInt_inj] at h
  have e : (0 : Int64).toInt = 0 := by decide
  have c1 := c_isub z s
  have r1 := rng32 z; have r2 := rng32 s
  omega
theorem own_nat {x : Int32} (h : 0 ≤ x.toInt) : (x.toNatClampNeg : Int) = x.toInt := by
  show ((x.toInt.toNat : Nat) : Int) = _
  omega
theorem own_sub {x y : Int32} (h1 : 0 ≤ y.toInt) (h2 : y.toInt ≤ x.toInt) (h3 : x.toInt ≤ 4) : (x - y).toInt = x.toInt - y.toInt := by
  have c1 := c_isub x y
  have r1 := rng32 (x - y)
  omega
theorem own_zadd (x : Int32) : (0 : Int32) + x = x := Int32.zero_add x
section
variable {p1 p2 z : Int32}
theorem own_cr1 (hb : 0 ≤ p1.toInt ∧ p1.toInt ≤ p2.toInt ∧ p2.toInt ≤ z.toInt ∧ z.toInt ≤ 4) : ¬ (p2 < p1) := by rw [Int32.lt_iff_toInt_lt]; omega
theorem own_cr2 (hb : 0 ≤ p1.toInt ∧ p1.toInt ≤ p2.toInt ∧ p2.toInt ≤ z.toInt ∧ z.toInt ≤ 4) : ¬ (p2 - p1) < 0 := by
  have h := own_sub hb.1 hb.2.1 (by omega)
  have k := own_c
  rw [Int32.lt_iff_toInt_lt]; omega
theorem own_cr3 (hb : 0 ≤ p1.toInt ∧ p1.toInt ≤ p2.toInt ∧ p2.toInt ≤ z.toInt ∧ z.toInt ≤ 4) : (p2 - p1).toNatClampNeg ≤ 4 := by
  have h := own_sub hb.1 hb.2.1 (by omega)
  have h2 := own_nat (x := p2 - p1) (by omega)
  omega
theorem own_cr4 (hb : 0 ≤ p1.toInt ∧ p1.toInt ≤ p2.toInt ∧ p2.toInt ≤ z.toInt ∧ z.toInt ≤ 4) : ¬ p1 < 0 := by
  have k := own_c
  rw [Int32.lt_iff_toInt_lt]; omega
theorem own_cr5 (hb : 0 ≤ p1.toInt ∧ p1.toInt ≤ p2.toInt ∧ p2.toInt ≤ z.toInt ∧ z.toInt ≤ 4) : p1.toNatClampNeg + (p2 - p1).toNatClampNeg ≤ z.toNatClampNeg := by
  have h := own_sub hb.1 hb.2.1 (by omega)
  have h2 := own_nat (x := p2 - p1) (by omega)
  have h3 := own_nat (x := p1) (by omega)
  have h4 := own_nat (x := z) (by omega)
  omega
theorem own_crm (hb : 0 ≤ p1.toInt ∧ p1.toInt ≤ p2.toInt ∧ p2.toInt ≤ z.toInt ∧ z.toInt ≤ 4) : (if (p2 - p1) < (z - p1) then (p2 - p1) else (z - p1)) = (p2 - p1) := by
  have h := own_sub hb.1 hb.2.1 (by omega)
  have h2 := own_sub (x := z) (y := p1) hb.1 (by omega) (by omega)
  split
  · rfl
  · rename_i q
    rw [Int32.lt_iff_toInt_lt] at q
    exact own_i _ _ (by omega)
theorem own_c1 (hp : 0 < p1.toInt ∧ p1.toInt ≤ 4) : ¬ (p1 = (0 : Int32)) := by
  have k := own_c
  rw [← Int32.toInt_inj]; omega
theorem own_c2 (hp : 0 < p1.toInt ∧ p1.toInt ≤ 4) : ¬ p1 < 0 := by
  have k := own_c
  rw [Int32.lt_iff_toInt_lt]; omega
theorem own_c3 (hp : 0 < p1.toInt ∧ p1.toInt ≤ 4) : p1.toNatClampNeg ≤ 4 := by
  have h := own_nat (x := p1) (by omega)
  omega
theorem own_cn (hp : 0 < p1.toInt ∧ p1.toInt ≤ 4) : (if p1 < (0 : Int32) then p1 else (0 : Int32)) = (0 : Int32) := if_neg (own_c2 hp)
theorem own_g3 (hp : 0 < p1.toInt ∧ p1.toInt ≤ 4) : ¬ ((4194306 : Int32) < p1) := by
  have k := own_c
  rw [Int32.lt_iff_toInt_lt]; omega
theorem own_g1 (hp : 0 < p1.toInt ∧ p1.toInt ≤ 4) : (if p1 < ((2 : Int32) * (0 : Int32)) then ((2 : Int32) * (0 : Int32)) else p1) = p1 := by
  rw [if_neg]
  rw [Int32.mul_zero]; exact own_c2 hp
theorem own_g2 (hp : 0 < p1.toInt ∧ p1.toInt ≤ 4) : (if (4194306 : Int32) < p1 then (4194306 : Int32) else p1) = p1 := if_neg (own_g3 hp)
end
section
variable {s z : Int32}
theorem own_gp (hb : 0 ≤ s.toInt ∧ s.toInt < z.toInt ∧ z.toInt ≤ 4) : 0 < ((0 : Int32) + (z - s)).toInt ∧ ((0 : Int32) + (z - s)).toInt ≤ 4 := by
  have h := own_sub (x := z) (y := s) hb.1 (by omega) (by omega)
  rw [own_zadd]; omega
theorem own_k0 (z : Int32) : (if ((4194306 : Int32) - (0 : Int32)) < (z - z) then ((4194306 : Int32) - (0 : Int32)) else (z - z)) = (0 : Int32) := by
  rw [Int32.sub_self, if_neg (by decide)]
theorem own_k1 (hb : 0 ≤ s.toInt ∧ s.toInt < z.toInt ∧ z.toInt ≤ 4) : (if ((4194306 : Int32) - (0 : Int32)) < (z - s) then ((4194306 : Int32) - (0 : Int32)) else (z - s)) = (z - s) := by
  have h := own_sub (x := z) (y := s) hb.1 (by omega) (by omega)
  rw [if_neg]
  rw [Int32.sub_zero, Int32.lt_iff_toInt_lt]
  have k := own_c
  omega
theorem own_k2 (hb : 0 ≤ s.toInt ∧ s.toInt < z.toInt ∧ z.toInt ≤ 4) : ¬ ((z - s) = (0 : Int32)) := by
  have h := own_sub (x := z) (y := s) hb.1 (by omega) (by omega)
  have k := own_c
  rw [← Int32.toInt_inj]; omega
theorem own_k3 (hb : 0 ≤ s.toInt ∧ s.toInt < z.toInt ∧ z.toInt ≤ 4) : (0 : Int32) < ((0 : Int32) + (z - s)) := by
  have h := own_gp hb
  have k := own_c
  rw [Int32.lt_iff_toInt_lt]; omega
theorem own_k4 (hb : 0 ≤ s.toInt ∧ s.toInt < z.toInt ∧ z.toInt ≤ 4) : ¬ s < 0 := by
  have k := own_c
  rw [Int32.lt_iff_toInt_lt]; omega
theorem own_k5' (hb : 0 ≤ s.toInt ∧ s.toInt < z.toInt ∧ z.toInt ≤ 4) : ¬ (z - s) < 0 := by
  have h := own_sub (x := z) (y := s) hb.1 (by omega) (by omega)
  have k := own_c
  rw [Int32.lt_iff_toInt_lt]; omega
theorem own_k6 (hb : 0 ≤ s.toInt ∧ s.toInt < z.toInt ∧ z.toInt ≤ 4) : s.toNatClampNeg + (z - s).toNatClampNeg ≤ z.toNatClampNeg := by
  have h := own_sub (x := z) (y := s) hb.1 (by omega) (by omega)
  have h2 := own_nat (x := z - s) (by omega)
  have h3 := own_nat (x := s) (by omega)
  have h4 := own_nat (x := z) (by omega)
  omega
theorem own_k7 (hb : 0 ≤ s.toInt ∧ s.toInt < z.toInt ∧ z.toInt ≤ 4) : (0 : Int32).toNatClampNeg + (z - s).toNatClampNeg ≤ ((0 : Int32) + (z - s)).toNatClampNeg := by
  rw [own_zadd]; exact Nat.le_of_eq (Nat.zero_add _)
theorem own_k9 (hb : 0 ≤ s.toInt ∧ s.toInt < z.toInt ∧ z.toInt ≤ 4) : ((0 : Int32) + (z - s)).toNatClampNeg ≤ 4 := own_c3 (own_gp hb)
theorem own_k8 (hb : 0 ≤ s.toInt ∧ s.toInt < z.toInt ∧ z.toInt ≤ 4) : (0 : Int32).toNatClampNeg + (z - s).toNatClampNeg ≤ 4 := by
  have h := own_k9 hb
  rw [own_zadd] at h
  exact Nat.le_trans (Nat.le_of_eq (Nat.zero_add _)) h
theorem own_k10 (hb : 0 ≤ s.toInt ∧ s.toInt < z.toInt ∧ z.toInt ≤ 4) : ¬ (((0 : Int32) + (z - s)) = (0 : Int32)) := own_c1 (own_gp hb)
variable {i : Int32} {t : Int}
theorem own_up {t' : Int} (hb : 0 ≤ s.toInt ∧ s.toInt < z.toInt ∧ z.toInt ≤ 4) (hi : i.toInt = s.toInt + t ∧ i.toInt ≤ z.toInt) (lt : i < z) (ht : t' = t + 1 := by rfl) (h0 : 0 ≤ t := by decide) : (i + (1 : Int32)).toInt = s.toInt + t' ∧ (i + (1 : Int32)).toInt ≤ z.toInt := by
  have c1 := c_iadd i 1
  have r1 := rng32 (i + 1)
  have k := own_c
  rw [Int32.lt_iff_toInt_lt] at lt
  omega
theorem own_nn (hb : 0 ≤ s.toInt ∧ s.toInt < z.toInt ∧ z.toInt ≤ 4) (hi : i.toInt = s.toInt + t ∧ i.toInt ≤ z.toInt) (h0 : 0 ≤ t := by decide) : ¬ i < 0 := by
  have k := own_c
  rw [Int32.lt_iff_toInt_lt]; omega
theorem own_e4 (hb : 0 ≤ s.toInt ∧ s.toInt < z.toInt ∧ z.toInt ≤ 4) (hi : i.toInt = s.toInt + 4 ∧ i.toInt ≤ z.toInt) : ¬ (i < z) := by
  rw [Int32.lt_iff_toInt_lt]; omega
theorem own_ge (hi : i.toInt = s.toInt + t ∧ i.toInt ≤ z.toInt) (h0 : 0 ≤ t := by decide) : s.toInt ≤ i.toInt := by omega
theorem own_ez (hi : i.toInt = s.toInt + t ∧ i.toInt ≤ z.toInt) (h : ¬ (i < z)) : z = i := by
  rw [Int32.lt_iff_toInt_lt] at h
  exact own_i _ _ (by omega)
theorem own_four {x : Int32} (h0 : 0 ≤ x.toInt) (h1 : x.toInt < 4) : x = 0 ∨ x = 1 ∨ x = 2 ∨ x = 3 := by
  have h3 : x.toInt = 0 ∨ x.toInt = 1 ∨ x.toInt = 2 ∨ x.toInt = 3 := by omega
  rcases h3 with h | h | h | h
  · exact Or.inl (own_i x 0 h)
  · exact Or.inr (Or.inl (own_i x 1 h))
  · exact Or.inr (Or.inr (Or.inl (own_i x 2 h)))
  · exact Or.inr (Or.inr (Or.inr (own_i x 3 h)))
variable {vs : List Value} {dv : Value}
theorem own_a1 (hb : 0 ≤ s.toInt ∧ s.toInt < z.toInt ∧ z.toInt ≤ 4) (hi : i.toInt = s.toInt + t ∧ i.toInt ≤ z.toInt) (lt : i < z) (ne : ¬ (own_b vs dv i = (10 : Int32))) (h0 : 0 ≤ t := by decide) : own_after vs dv z (i + (1 : Int32)) = own_after vs dv z i := by
  have lt' := lt
  rw [Int32.lt_iff_toInt_lt] at lt'
  rcases own_four (x := i) (by omega) (by omega) with rfl | rfl | rfl | rfl <;> simp [own_after, ne, lt]
theorem own_a2 (hb : 0 ≤ s.toInt ∧ s.toInt < z.toInt ∧ z.toInt ≤ 4) (hi : i.toInt = s.toInt + t ∧ i.toInt ≤ z.toInt) (lt : i < z) (eq : own_b vs dv i = (10 : Int32)) (h0 : 0 ≤ t := by decide) : own_after vs dv z i = i + (1 : Int32) := by
  have lt' := lt
  rw [Int32.lt_iff_toInt_lt] at lt'
  rcases own_four (x := i) (by omega) (by omega) with rfl | rfl | rfl | rfl <;> simp [own_after, eq, lt]
theorem own_five {x : Int32} (h0 : 0 ≤ x.toInt) (h1 : x.toInt ≤ 4) : x = 0 ∨ x = 1 ∨ x = 2 ∨ x = 3 ∨ x = 4 := by
  have h3 : x.toInt = 0 ∨ x.toInt = 1 ∨ x.toInt = 2 ∨ x.toInt = 3 ∨ x.toInt = 4 := by omega
  rcases h3 with h | h | h | h | h
  · exact Or.inl (own_i x 0 h)
  · exact Or.inr (Or.inl (own_i x 1 h))
  · exact Or.inr (Or.inr (Or.inl (own_i x 2 h)))
  · exact Or.inr (Or.inr (Or.inr (Or.inl (own_i x 3 h))))
  · exact Or.inr (Or.inr (Or.inr (Or.inr (own_i x 4 h))))
theorem own_a3 (hz : 0 ≤ z.toInt ∧ z.toInt ≤ 4) (h : i = z) : own_after vs dv z i = z := by
  subst h
  rcases own_five hz.1 hz.2 with rfl | rfl | rfl | rfl | rfl <;> simp [own_after]
theorem own_a3j (hb : 0 ≤ s.toInt ∧ s.toInt < z.toInt ∧ z.toInt ≤ 4) (h : z = i) : own_after vs dv z i = z := own_a3 ⟨by omega, hb.2.2⟩ h.symm
theorem own_ab (hz : 0 ≤ z.toInt ∧ z.toInt ≤ 4) (hr : 0 ≤ s.toInt ∧ s.toInt ≤ z.toInt) (vs : List Value) (dv : Value) : 0 ≤ (own_after vs dv z s).toInt ∧ (own_after vs dv z s).toInt ≤ z.toInt := by
  have k := own_c
  unfold own_after
  split
  · rename_i h; rw [Int32.lt_iff_toInt_lt, Int32.lt_iff_toInt_lt] at h; omega
  · split
    · rename_i h; rw [Int32.lt_iff_toInt_lt, Int32.lt_iff_toInt_lt] at h; omega
    · split
      · rename_i h; rw [Int32.lt_iff_toInt_lt, Int32.lt_iff_toInt_lt] at h; omega
      · split
        · rename_i h; rw [Int32.lt_iff_toInt_lt, Int32.lt_iff_toInt_lt] at h; omega
        · omega
theorem own_r0 (hz : 0 ≤ z.toInt ∧ z.toInt ≤ 4) : 0 ≤ (0 : Int32).toInt ∧ (0 : Int32).toInt ≤ z.toInt := by
  have k := own_c
  omega
theorem own_lt3 (hz : 0 ≤ z.toInt ∧ z.toInt ≤ 4) (hr : 0 ≤ s.toInt ∧ s.toInt ≤ z.toInt) (hn : ¬ (s = z)) : 0 ≤ s.toInt ∧ s.toInt < z.toInt ∧ z.toInt ≤ 4 := by
  rw [← Int32.toInt_inj] at hn
  omega
theorem own_ltz (hb : 0 ≤ s.toInt ∧ s.toInt < z.toInt ∧ z.toInt ≤ 4) : s < z := Int32.lt_iff_toInt_lt.mpr hb.2.1
theorem own_nez (hb : 0 ≤ s.toInt ∧ s.toInt < z.toInt ∧ z.toInt ≤ 4) : ¬ (s = z) := by rw [← Int32.toInt_inj]; omega
theorem own_cast {Z : State} {h : Heap} {ob ar ln : Addr} (e : s = z) (rd : own_rd Z h ob ar z s ln) : own_rd Z h ob ar z z ln := by subst e; exact rd
variable {j : Int32}
theorem own_dec (hb : 0 ≤ s.toInt ∧ s.toInt < z.toInt ∧ z.toInt ≤ 4) (hlt : j < z) (h : s < j) : (j - (1 : Int32)).toInt = j.toInt - 1 := by
  have c1 := c_isub j 1
  have r1 := rng32 (j - 1)
  have k := own_c
  rw [Int32.lt_iff_toInt_lt] at hlt h
  omega
theorem own_n1 (hb : 0 ≤ s.toInt ∧ s.toInt < z.toInt ∧ z.toInt ≤ 4) (hlt : j < z) (h : s < j) : ¬ (j - (1 : Int32)) < 0 ∧ (j - (1 : Int32)) < z := by
  have d := own_dec hb hlt h
  have k := own_c
  rw [Int32.lt_iff_toInt_lt] at hlt h
  rw [Int32.lt_iff_toInt_lt, Int32.lt_iff_toInt_lt]
  omega
theorem own_cb1 (hb : 0 ≤ s.toInt ∧ s.toInt < z.toInt ∧ z.toInt ≤ 4) (hlt : j < z) (hge : s.toInt ≤ j.toInt) : 0 ≤ s.toInt ∧ s.toInt ≤ j.toInt ∧ j.toInt ≤ z.toInt ∧ z.toInt ≤ 4 := by
  rw [Int32.lt_iff_toInt_lt] at hlt
  omega
theorem own_cb2 (hb : 0 ≤ s.toInt ∧ s.toInt < z.toInt ∧ z.toInt ≤ 4) (hlt : j < z) (h : s < j) : 0 ≤ s.toInt ∧ s.toInt ≤ (j - (1 : Int32)).toInt ∧ (j - (1 : Int32)).toInt ≤ z.toInt ∧ z.toInt ≤ 4 := by
  have d := own_dec hb hlt h
  rw [Int32.lt_iff_toInt_lt] at hlt h
  omega
theorem own_ne1 (hlt : j < z) : ¬ (j = z) := by
  rw [Int32.lt_iff_toInt_lt] at hlt
  rw [← Int32.toInt_inj]; omega
theorem own_ne2 (hb : 0 ≤ s.toInt ∧ s.toInt < z.toInt ∧ z.toInt ≤ 4) (hlt : j < z) (h : s < j) : ¬ ((j - (1 : Int32)) = z) := by
  have d := own_dec hb hlt h
  rw [Int32.lt_iff_toInt_lt] at hlt h
  rw [← Int32.toInt_inj]; omega
end
theorem d8_0 : decode jdk_29_method_69_code 0 = .ok (.iload_n 0, 1) := by decide +kernel
theorem d8_1 : decode jdk_29_method_69_code 1 = .ok (.iload_n 1, 1) := by decide +kernel
theorem d8_2 : decode jdk_29_method_69_code 2 = .ok (.if_icmp .gt 7, 3) := by decide +kernel
theorem d8_5 : decode jdk_29_method_69_code 5 = .ok (.iload_n 0, 1) := by decide +kernel
theorem d8_6 : decode jdk_29_method_69_code 6 = .ok (.goto 4, 3) := by decide +kernel
theorem d8_9 : decode jdk_29_method_69_code 9 = .ok (.iload_n 1, 1) := by decide +kernel
theorem d8_10 : decode jdk_29_method_69_code 10 = .ok (.ireturn, 1) := by decide +kernel
theorem ef_rmmin (m : MethodId) (x0 : Int32) (x1 : Int32) : entryFrame m #[(.int x0), (.int x1)] 2 = mkF m 0 #[.val (.int x0), .val (.int x1)] [] := by first | (simp [entryFrame, mkF, argsToLocals, Value.category]; done) | rfl
def Qmin (Z : State) (p0 : Int32) (p1 : Int32) (r : Int32) (h0 : Heap) (n0 : Nat) (v : Option Value) (h : Heap) (L : List Loc) : Prop := v = some (.int r) ∧ Fr n0 L ∧ h = h0
set_option maxRecDepth 65536 in
set_option maxHeartbeats 40000000 in
theorem rmmin (l : Launch) (Z : State) (a0 : Array Value) (hw : ∀ d ∈ tables_1, d.before a0 Z = true) (ws : List Jvm.Cond) (p0 : Int32) (p1 : Int32) (r : Int32) (h0 : Heap) (n0 : Nat) (Z0 : n0 ≤ h0.size) (hr : (if p1 < p0 then p1 else p0) = r) :
    MetFree l (⟨"java/lang/Math", "min", "(II)I"⟩ : MethodName) (head1 (Jvm.Cond.code (⟨"java/lang/Math", "min", "(II)I"⟩ : MethodName) jdk_29_method_69_code 2 (some .int) :: ws) ({ frames := 0, cells := 0, slots := 0, locals := 0 } : Room)) (fun a U => a = #[(.int p0), (.int p1)] ∧ Z.Warmed39 U.vm ∧ U.heap = h0) (fun _ _ _ _ _ => True) (fun _ U o U' => ∃ v L, o = .returned v ∧ Qmin Z p0 p1 r h0 n0 v U'.heap L ∧ FrameEnd U o U' L ({ frames := 0, cells := 0, slots := 0, locals := 0 } : Room).cells ({ frames := 0, cells := 0, slots := 0, locals := 0 } : Room).slots) := by
  refine MetFree.of_bodySF (Jvm.Free.JP.mathPlain rfl (by decide +kernel)) hisR ?_
  intro p e s0 m args below meth c s₁ Bd hml0 hP hK
  obtain ⟨rfl, hZ, hh⟩ := hP
  have hx := Bd.exec
  have hby := Bd.bytes
  have hml : c.maxLocals = 2 := hml0
  have hown : s0.vm.findClass "java/lang/Math" = some m.cls := findClass_of_methodNamed Bd.named
  have hnm := (name_of_methodNamed Bd.named Bd.method).1
  have X0 : Stand p l e ({ frames := 0, cells := 0, slots := 0, locals := 0 } : Room) s0 m #[(.int p0), (.int p1)] below meth c s₁ [] 0 0 := Stand.of_body Bd
  have e0 : s₁.heap = h0 := by rw [← hh, Bd.state]; rfl
  have N0 := Fr.nil n0
  have pre0 : ∀ t, Steps p.tables e below (s₁.setTop (mkF m 0 #[.val (.int p0), .val (.int p1)] [])) t → Steps p.tables e below (s₁.setTop (entryFrame m #[(.int p0), (.int p1)] 2)) t := fun t k => castTop (ef_rmmin m p0 p1) k
  have pre1 : ∀ t, Steps p.tables e below (s₁.setTop (mkF m 2 #[.val (.int p0), .val (.int p1)] [(.int p1), (.int p0)])) t → Steps p.tables e below (s₁.setTop (entryFrame m #[(.int p0), (.int p1)] 2)) t := fun t k => by
    refine pre0 t ?_
    show Steps p.tables e below (s₁.setTop (mkF m 0 #[.val (.int p0), .val (.int p1)] [])) _
    refine XS.iloadN X0.here hx rfl (hb hby d8_0) rfl ?_
    show Steps p.tables e below (s₁.setTop (mkF m 1 #[.val (.int p0), .val (.int p1)] [(.int p0)])) _
    refine XS.iloadN X0.here hx rfl (hb hby d8_1) rfl ?_
    exact k
  by_cases hc2_2 : p1 < p0
  · have pre3 : ∀ t, Steps p.tables e below (s₁.setTop (mkF m 10 #[.val (.int p0), .val (.int p1)] [(.int p1)])) t → Steps p.tables e below (s₁.setTop (entryFrame m #[(.int p0), (.int p1)] 2)) t := fun t k => by
      refine pre1 t ?_
      show Steps p.tables e below (s₁.setTop (mkF m 2 #[.val (.int p0), .val (.int p1)] [(.int p1), (.int p0)])) _
      refine XS.icmpYes X0.here hx rfl (pc0 := 2) (pc' := 9) rfl (hb hby d8_2) rfl (tlt hc2_2).2.2.1 (by decide) (by decide) ?_
      show Steps p.tables e below (s₁.setTop (mkF m 9 #[.val (.int p0), .val (.int p1)] [])) _
      refine XS.iloadN X0.here hx rfl (hb hby d8_9) rfl ?_
      exact k
    obtain ⟨fs, hrq, hrun, hended, hW, hsame⟩ := X0.leave (v := some (.int p1)) (fun h => by rw [Bd.returns] at h; cases h)
    refine ⟨_, _, pre3 _ ?_, hrun, hended, _, _, rfl, ?_, ⟨_, rfl⟩, hW, hsame.mono (by decide) (by decide)⟩
    · show Steps p.tables e below (s₁.setTop (mkF m 10 #[.val (.int p0), .val (.int p1)] [(.int p1)])) _
      exact retI X0 hx Bd.returns (hb hby d8_10) hrq
    · show Qmin Z p0 p1 r h0 n0 _ s₁.heap _
      rw [e0]
      exact ⟨by rw [← hr, if_pos hc2_2], N0, rfl⟩
  · have pre4 : ∀ t, Steps p.tables e below (s₁.setTop (mkF m 10 #[.val (.int p0), .val (.int p1)] [(.int p0)])) t → Steps p.tables e below (s₁.setTop (entryFrame m #[(.int p0), (.int p1)] 2)) t := fun t k => by
      refine pre1 t ?_
      show Steps p.tables e below (s₁.setTop (mkF m 2 #[.val (.int p0), .val (.int p1)] [(.int p1), (.int p0)])) _
      refine XS.icmpNo X0.here hx rfl (hb hby d8_2) rfl (flt hc2_2).2.2.1 ?_
      show Steps p.tables e below (s₁.setTop (mkF m 5 #[.val (.int p0), .val (.int p1)] [])) _
      refine XS.iloadN X0.here hx rfl (hb hby d8_5) rfl ?_
      show Steps p.tables e below (s₁.setTop (mkF m 6 #[.val (.int p0), .val (.int p1)] [(.int p0)])) _
      refine XS.goto X0.here hx rfl (pc0 := 6) (pc' := 10) rfl (hb hby d8_6) (by decide) (by decide) ?_
      exact k
    obtain ⟨fs, hrq, hrun, hended, hW, hsame⟩ := X0.leave (v := some (.int p0)) (fun h => by rw [Bd.returns] at h; cases h)
    refine ⟨_, _, pre4 _ ?_, hrun, hended, _, _, rfl, ?_, ⟨_, rfl⟩, hW, hsame.mono (by decide) (by decide)⟩
    · show Steps p.tables e below (s₁.setTop (mkF m 10 #[.val (.int p0), .val (.int p1)] [(.int p0)])) _
      exact retI X0 hx Bd.returns (hb hby d8_10) hrq
    · show Qmin Z p0 p1 r h0 n0 _ s₁.heap _
      rw [e0]
      exact ⟨by rw [← hr, if_neg hc2_2], N0, rfl⟩
theorem d16_0 : decode jdk_29_method_65_code 0 = .ok (.iload_n 0, 1) := by decide +kernel
theorem d16_1 : decode jdk_29_method_65_code 1 = .ok (.iload_n 1, 1) := by decide +kernel
theorem d16_2 : decode jdk_29_method_65_code 2 = .ok (.if_icmp .lt 7, 3) := by decide +kernel
theorem d16_5 : decode jdk_29_method_65_code 5 = .ok (.iload_n 0, 1) := by decide +kernel
theorem d16_6 : decode jdk_29_method_65_code 6 = .ok (.goto 4, 3) := by decide +kernel
theorem d16_9 : decode jdk_29_method_65_code 9 = .ok (.iload_n 1, 1) := by decide +kernel
theorem d16_10 : decode jdk_29_method_65_code 10 = .ok (.ireturn, 1) := by decide +kernel
theorem ef_rmmax (m : MethodId) (x0 : Int32) (x1 : Int32) : entryFrame m #[(.int x0), (.int x1)] 2 = mkF m 0 #[.val (.int x0), .val (.int x1)] [] := by first | (simp [entryFrame, mkF, argsToLocals, Value.category]; done) | rfl
def Qmax (Z : State) (p0 : Int32) (p1 : Int32) (r : Int32) (h0 : Heap) (n0 : Nat) (v : Option Value) (h : Heap) (L : List Loc) : Prop := v = some (.int r) ∧ Fr n0 L ∧ h = h0
set_option maxRecDepth 65536 in
set_option maxHeartbeats 40000000 in
theorem rmmax (l : Launch) (Z : State) (a0 : Array Value) (hw : ∀ d ∈ tables_1, d.before a0 Z = true) (ws : List Jvm.Cond) (p0 : Int32) (p1 : Int32) (r : Int32) (h0 : Heap) (n0 : Nat) (Z0 : n0 ≤ h0.size) (hr : (if p0 < p1 then p1 else p0) = r) :
    MetFree l (⟨"java/lang/Math", "max", "(II)I"⟩ : MethodName) (head1 (Jvm.Cond.code (⟨"java/lang/Math", "max", "(II)I"⟩ : MethodName) jdk_29_method_65_code 2 (some .int) :: ws) ({ frames := 0, cells := 0, slots := 0, locals := 0 } : Room)) (fun a U => a = #[(.int p0), (.int p1)] ∧ Z.Warmed39 U.vm ∧ U.heap = h0) (fun _ _ _ _ _ => True) (fun _ U o U' => ∃ v L, o = .returned v ∧ Qmax Z p0 p1 r h0 n0 v U'.heap L ∧ FrameEnd U o U' L ({ frames := 0, cells := 0, slots := 0, locals := 0 } : Room).cells ({ frames := 0, cells := 0, slots := 0, locals := 0 } : Room).slots) := by
  refine MetFree.of_bodySF (Jvm.Free.JP.mathPlain rfl (by decide +kernel)) hisR ?_
  intro p e s0 m args below meth c s₁ Bd hml0 hP hK
  obtain ⟨rfl, hZ, hh⟩ := hP
  have hx := Bd.exec
  have hby := Bd.bytes
  have hml : c.maxLocals = 2 := hml0
  have hown : s0.vm.findClass "java/lang/Math" = some m.cls := findClass_of_methodNamed Bd.named
  have hnm := (name_of_methodNamed Bd.named Bd.method).1
  have X0 : Stand p l e ({ frames := 0, cells := 0, slots := 0, locals := 0 } : Room) s0 m #[(.int p0), (.int p1)] below meth c s₁ [] 0 0 := Stand.of_body Bd
  have e0 : s₁.heap = h0 := by rw [← hh, Bd.state]; rfl
  have N0 := Fr.nil n0
  have pre0 : ∀ t, Steps p.tables e below (s₁.setTop (mkF m 0 #[.val (.int p0), .val (.int p1)] [])) t → Steps p.tables e below (s₁.setTop (entryFrame m #[(.int p0), (.int p1)] 2)) t := fun t k => castTop (ef_rmmax m p0 p1) k
  have pre1 : ∀ t, Steps p.tables e below (s₁.setTop (mkF m 2 #[.val (.int p0), .val (.int p1)] [(.int p1), (.int p0)])) t → Steps p.tables e below (s₁.setTop (entryFrame m #[(.int p0), (.int p1)] 2)) t := fun t k => by
    refine pre0 t ?_
    show Steps p.tables e below (s₁.setTop (mkF m 0 #[.val (.int p0), .val (.int p1)] [])) _
    refine XS.iloadN X0.here hx rfl (hb hby d16_0) rfl ?_
    show Steps p.tables e below (s₁.setTop (mkF m 1 #[.val (.int p0), .val (.int p1)] [(.int p0)])) _
    refine XS.iloadN X0.here hx rfl (hb hby d16_1) rfl ?_
    exact k
  by_cases hc2_2 : p0 < p1
  · have pre3 : ∀ t, Steps p.tables e below (s₁.setTop (mkF m 10 #[.val (.int p0), .val (.int p1)] [(.int p1)])) t → Steps p.tables e below (s₁.setTop (entryFrame m #[(.int p0), (.int p1)] 2)) t := fun t k => by
      refine pre1 t ?_
      show Steps p.tables e below (s₁.setTop (mkF m 2 #[.val (.int p0), .val (.int p1)] [(.int p1), (.int p0)])) _
      refine XS.icmpYes X0.here hx rfl (pc0 := 2) (pc' := 9) rfl (hb hby d16_2) rfl (tlt hc2_2).1 (by decide) (by decide) ?_
      show Steps p.tables e below (s₁.setTop (mkF m 9 #[.val (.int p0), .val (.int p1)] [])) _
      refine XS.iloadN X0.here hx rfl (hb hby d16_9) rfl ?_
      exact k
    obtain ⟨fs, hrq, hrun, hended, hW, hsame⟩ := X0.leave (v := some (.int p1)) (fun h => by rw [Bd.returns] at h; cases h)
    refine ⟨_, _, pre3 _ ?_, hrun, hended, _, _, rfl, ?_, ⟨_, rfl⟩, hW, hsame.mono (by decide) (by decide)⟩
    · show Steps p.tables e below (s₁.setTop (mkF m 10 #[.val (.int p0), .val (.int p1)] [(.int p1)])) _
      exact retI X0 hx Bd.returns (hb hby d16_10) hrq
    · show Qmax Z p0 p1 r h0 n0 _ s₁.heap _
      rw [e0]
      exact ⟨by rw [← hr, if_pos hc2_2], N0, rfl⟩
  · have pre4 : ∀ t, Steps p.tables e below (s₁.setTop (mkF m 10 #[.val (.int p0), .val (.int p1)] [(.int p0)])) t → Steps p.tables e below (s₁.setTop (entryFrame m #[(.int p0), (.int p1)] 2)) t := fun t k => by
      refine pre1 t ?_
      show Steps p.tables e below (s₁.setTop (mkF m 2 #[.val (.int p0), .val (.int p1)] [(.int p1), (.int p0)])) _
      refine XS.icmpNo X0.here hx rfl (hb hby d16_2) rfl (flt hc2_2).1 ?_
      show Steps p.tables e below (s₁.setTop (mkF m 5 #[.val (.int p0), .val (.int p1)] [])) _
      refine XS.iloadN X0.here hx rfl (hb hby d16_5) rfl ?_
      show Steps p.tables e below (s₁.setTop (mkF m 6 #[.val (.int p0), .val (.int p1)] [(.int p0)])) _
      refine XS.goto X0.here hx rfl (pc0 := 6) (pc' := 10) rfl (hb hby d16_6) (by decide) (by decide) ?_
      exact k
    obtain ⟨fs, hrq, hrun, hended, hW, hsame⟩ := X0.leave (v := some (.int p0)) (fun h => by rw [Bd.returns] at h; cases h)
    refine ⟨_, _, pre4 _ ?_, hrun, hended, _, _, rfl, ?_, ⟨_, rfl⟩, hW, hsame.mono (by decide) (by decide)⟩
    · show Steps p.tables e below (s₁.setTop (mkF m 10 #[.val (.int p0), .val (.int p1)] [(.int p0)])) _
      exact retI X0 hx Bd.returns (hb hby d16_10) hrq
    · show Qmax Z p0 p1 r h0 n0 _ s₁.heap _
      rw [e0]
      exact ⟨by rw [← hr, if_neg hc2_2], N0, rfl⟩
theorem d11_0 : decode method_2_code 0 = .ok (.iload_n 0, 1) := by decide +kernel
theorem d11_1 : decode method_2_code 1 = .ok (.iconst 2, 1) := by decide +kernel
theorem d11_2 : decode method_2_code 2 = .ok (.iload_n 2, 1) := by decide +kernel
theorem d11_3 : decode method_2_code 3 = .ok (.imul, 1) := by decide +kernel
theorem d11_4 : decode method_2_code 4 = .ok (.iushr, 1) := by decide +kernel
theorem d11_5 : decode method_2_code 5 = .ok (.iconst 3, 1) := by decide +kernel
theorem d11_6 : decode method_2_code 6 = .ok (.iand, 1) := by decide +kernel
theorem d11_7 : decode method_2_code 7 = .ok (.istore_n 3, 1) := by decide +kernel
theorem d11_8 : decode method_2_code 8 = .ok (.iload_n 3, 1) := by decide +kernel
theorem d11_9 : decode method_2_code 9 = .ok (.ifCond .ne 6, 3) := by decide +kernel
theorem d11_12 : decode method_2_code 12 = .ok (.bipush 10, 2) := by decide +kernel
theorem d11_14 : decode method_2_code 14 = .ok (.ireturn, 1) := by decide +kernel
theorem d11_15 : decode method_2_code 15 = .ok (.iload_n 3, 1) := by decide +kernel
theorem d11_16 : decode method_2_code 16 = .ok (.iconst 1, 1) := by decide +kernel
theorem d11_17 : decode method_2_code 17 = .ok (.if_icmp .ne 6, 3) := by decide +kernel
theorem d11_20 : decode method_2_code 20 = .ok (.bipush 13, 2) := by decide +kernel
theorem d11_22 : decode method_2_code 22 = .ok (.ireturn, 1) := by decide +kernel
theorem d11_23 : decode method_2_code 23 = .ok (.iload_n 1, 1) := by decide +kernel
theorem d11_24 : decode method_2_code 24 = .ok (.bipush 8, 2) := by decide +kernel
theorem d11_26 : decode method_2_code 26 = .ok (.iload_n 2, 1) := by decide +kernel
theorem d11_27 : decode method_2_code 27 = .ok (.imul, 1) := by decide +kernel
theorem d11_28 : decode method_2_code 28 = .ok (.iushr, 1) := by decide +kernel
theorem d11_29 : decode method_2_code 29 = .ok (.i2b, 1) := by decide +kernel
theorem d11_30 : decode method_2_code 30 = .ok (.ireturn, 1) := by decide +kernel
theorem ef_rmpick (m : MethodId) (x0 : Int32) (x1 : Int32) (x2 : Int32) : entryFrame m #[(.int x0), (.int x1), (.int x2)] 4 = mkF m 0 #[.val (.int x0), .val (.int x1), .val (.int x2), .unset] [] := by first | (simp [entryFrame, mkF, argsToLocals, Value.category]; done) | rfl
theorem pn_0 : plainName "quorumkeep/store/ReaderMostMessagesLeftPinLaw" = true := by first | (simp [plainName, overriddenIn]; done) | decide +kernel
def Qpick (Z : State) (p0 : Int32) (p1 : Int32) (p2 : Int32) (h0 : Heap) (n0 : Nat) (v : Option Value) (h : Heap) (L : List Loc) : Prop := ∃ r : Int32, v = some (.int r) ∧ Fr n0 L ∧ h = h0
set_option maxRecDepth 65536 in
set_option maxHeartbeats 40000000 in
theorem rmpick (l : Launch) (Z : State) (a0 : Array Value) (hw : ∀ d ∈ tables_1, d.before a0 Z = true) (ws : List Jvm.Cond) (p0 : Int32) (p1 : Int32) (p2 : Int32) (h0 : Heap) (n0 : Nat) (Z0 : n0 ≤ h0.size)  :
    MetFree l (⟨"quorumkeep/store/ReaderMostMessagesLeftPinLaw", "pick", "(III)B"⟩ : MethodName) (head1 (Jvm.Cond.code (⟨"quorumkeep/store/ReaderMostMessagesLeftPinLaw", "pick", "(III)B"⟩ : MethodName) method_2_code 4 (some .byte) :: ws) ({ frames := 0, cells := 0, slots := 0, locals := 0 } : Room)) (fun a U => a = #[(.int p0), (.int p1), (.int p2)] ∧ Z.Warmed39 U.vm ∧ U.heap = h0) (fun _ _ _ _ _ => True) (fun _ U o U' => ∃ v L, o = .returned v ∧ Qpick Z p0 p1 p2 h0 n0 v U'.heap L ∧ FrameEnd U o U' L ({ frames := 0, cells := 0, slots := 0, locals := 0 } : Room).cells ({ frames := 0, cells := 0, slots := 0, locals := 0 } : Room).slots) := by
  refine MetFree.of_bodySF (plainFor_of_name pn_0) hisR ?_
  intro p e s0 m args below meth c s₁ Bd hml0 hP hK
  obtain ⟨rfl, hZ, hh⟩ := hP
  have hx := Bd.exec
  have hby := Bd.bytes
  have hml : c.maxLocals = 4 := hml0
  have hown : s0.vm.findClass "quorumkeep/store/ReaderMostMessagesLeftPinLaw" = some m.cls := findClass_of_methodNamed Bd.named
  have hnm := (name_of_methodNamed Bd.named Bd.method).1
  have X0 : Stand p l e ({ frames := 0, cells := 0, slots := 0, locals := 0 } : Room) s0 m #[(.int p0), (.int p1), (.int p2)] below meth c s₁ [] 0 0 := Stand.of_body Bd
  have e0 : s₁.heap = h0 := by rw [← hh, Bd.state]; rfl
  have N0 := Fr.nil n0
  have pre0 : ∀ t, Steps p.tables e below (s₁.setTop (mkF m 0 #[.val (.int p0), .val (.int p1), .val (.int p2), .unset] [])) t → Steps p.tables e below (s₁.setTop (entryFrame m #[(.int p0), (.int p1), (.int p2)] 4)) t := fun t k => castTop (ef_rmpick m p0 p1 p2) k
  have pre1 : ∀ t, Steps p.tables e below (s₁.setTop (mkF m 9 #[.val (.int p0), .val (.int p1), .val (.int p2), .val (.int (((p0.toUInt32 >>> (((2 : Int32) * p2) &&& 31).toUInt32).toInt32) &&& (3 : Int32)))] [(.int (((p0.toUInt32 >>> (((2 : Int32) * p2) &&& 31).toUInt32).toInt32) &&& (3 : Int32)))])) t → Steps p.tables e below (s₁.setTop (entryFrame m #[(.int p0), (.int p1), (.int p2)] 4)) t := fun t k => by
    refine pre0 t ?_
    show Steps p.tables e below (s₁.setTop (mkF m 0 #[.val (.int p0), .val (.int p1), .val (.int p2), .unset] [])) _
    refine XS.iloadN X0.here hx rfl (hb hby d11_0) rfl ?_
    show Steps p.tables e below (s₁.setTop (mkF m 1 #[.val (.int p0), .val (.int p1), .val (.int p2), .unset] [(.int p0)])) _
    refine XS.iconst X0.here hx rfl (hb hby d11_1) ?_
    show Steps p.tables e below (s₁.setTop (mkF m 2 #[.val (.int p0), .val (.int p1), .val (.int p2), .unset] [(.int (2 : Int32)), (.int p0)])) _
    refine XS.iloadN X0.here hx rfl (hb hby d11_2) rfl ?_
    show Steps p.tables e below (s₁.setTop (mkF m 3 #[.val (.int p0), .val (.int p1), .val (.int p2), .unset] [(.int p2), (.int (2 : Int32)), (.int p0)])) _
    refine XS.imul X0.here hx rfl (hb hby d11_3) rfl ?_
    show Steps p.tables e below (s₁.setTop (mkF m 4 #[.val (.int p0), .val (.int p1), .val (.int p2), .unset] [(.int ((2 : Int32) * p2)), (.int p0)])) _
    refine XS.iushr X0.here hx rfl (hb hby d11_4) rfl ?_
    show Steps p.tables e below (s₁.setTop (mkF m 5 #[.val (.int p0), .val (.int p1), .val (.int p2), .unset] [(.int ((p0.toUInt32 >>> (((2 : Int32) * p2) &&& 31).toUInt32).toInt32))])) _
    refine XS.iconst X0.here hx rfl (hb hby d11_5) ?_
    show Steps p.tables e below (s₁.setTop (mkF m 6 #[.val (.int p0), .val (.int p1), .val (.int p2), .unset] [(.int (3 : Int32)), (.int ((p0.toUInt32 >>> (((2 : Int32) * p2) &&& 31).toUInt32).toInt32))])) _
    refine XS.iand X0.here hx rfl (hb hby d11_6) rfl ?_
    show Steps p.tables e below (s₁.setTop (mkF m 7 #[.val (.int p0), .val (.int p1), .val (.int p2), .unset] [(.int (((p0.toUInt32 >>> (((2 : Int32) * p2) &&& 31).toUInt32).toInt32) &&& (3 : Int32)))])) _
    refine XS.istoreN X0.here hx rfl (hb hby d11_7) rfl (l' := #[.val (.int p0), .val (.int p1), .val (.int p2), .val (.int (((p0.toUInt32 >>> (((2 : Int32) * p2) &&& 31).toUInt32).toInt32) &&& (3 : Int32)))]) rfl ?_
    show Steps p.tables e below (s₁.setTop (mkF m 8 #[.val (.int p0), .val (.int p1), .val (.int p2), .val (.int (((p0.toUInt32 >>> (((2 : Int32) * p2) &&& 31).toUInt32).toInt32) &&& (3 : Int32)))] [])) _
    refine XS.iloadN X0.here hx rfl (hb hby d11_8) rfl ?_
    exact k
  by_cases hc9_2 : (((p0.toUInt32 >>> (((2 : Int32) * p2) &&& 31).toUInt32).toInt32) &&& (3 : Int32)) = (0 : Int32)
  · have pre3 : ∀ t, Steps p.tables e below (s₁.setTop (mkF m 14 #[.val (.int p0), .val (.int p1), .val (.int p2), .val (.int (((p0.toUInt32 >>> (((2 : Int32) * p2) &&& 31).toUInt32).toInt32) &&& (3 : Int32)))] [(.int (10 : Int32))])) t → Steps p.tables e below (s₁.setTop (entryFrame m #[(.int p0), (.int p1), (.int p2)] 4)) t := fun t k => by
      refine pre1 t ?_
      show Steps p.tables e below (s₁.setTop (mkF m 9 #[.val (.int p0), .val (.int p1), .val (.int p2), .val (.int (((p0.toUInt32 >>> (((2 : Int32) * p2) &&& 31).toUInt32).toInt32) &&& (3 : Int32)))] [(.int (((p0.toUInt32 >>> (((2 : Int32) * p2) &&& 31).toUInt32).toInt32) &&& (3 : Int32)))])) _
      refine XS.ifNo X0.here hx rfl (hb hby d11_9) rfl ((if0 _ _).trans (teq hc9_2).2) ?_
      show Steps p.tables e below (s₁.setTop (mkF m 12 #[.val (.int p0), .val (.int p1), .val (.int p2), .val (.int (((p0.toUInt32 >>> (((2 : Int32) * p2) &&& 31).toUInt32).toInt32) &&& (3 : Int32)))] [])) _
      refine XS.bipush X0.here hx rfl (hb hby d11_12) ?_
      exact k
    obtain ⟨fs, hrq, hrun, hended, hW, hsame⟩ := X0.leave (v := some (.int (10 : Int32))) (fun h => by rw [Bd.returns] at h; cases h)
    refine ⟨_, _, pre3 _ ?_, hrun, hended, _, _, rfl, ?_, ⟨_, rfl⟩, hW, hsame.mono (by decide) (by decide)⟩
    · show Steps p.tables e below (s₁.setTop (mkF m 14 #[.val (.int p0), .val (.int p1), .val (.int p2), .val (.int (((p0.toUInt32 >>> (((2 : Int32) * p2) &&& 31).toUInt32).toInt32) &&& (3 : Int32)))] [(.int (10 : Int32))])) _
      exact retN X0 hx (t := .byte) Bd.returns (by simp) (hb hby d11_14) hrq
    · show Qpick Z p0 p1 p2 h0 n0 _ s₁.heap _
      rw [e0]
      exact ⟨_, rfl, N0, rfl⟩
  · have pre4 : ∀ t, Steps p.tables e below (s₁.setTop (mkF m 17 #[.val (.int p0), .val (.int p1), .val (.int p2), .val (.int (((p0.toUInt32 >>> (((2 : Int32) * p2) &&& 31).toUInt32).toInt32) &&& (3 : Int32)))] [(.int (1 : Int32)), (.int (((p0.toUInt32 >>> (((2 : Int32) * p2) &&& 31).toUInt32).toInt32) &&& (3 : Int32)))])) t → Steps p.tables e below (s₁.setTop (entryFrame m #[(.int p0), (.int p1), (.int p2)] 4)) t := fun t k => by
      refine pre1 t ?_
      show Steps p.tables e below (s₁.setTop (mkF m 9 #[.val (.int p0), .val (.int p1), .val (.int p2), .val (.int (((p0.toUInt32 >>> (((2 : Int32) * p2) &&& 31).toUInt32).toInt32) &&& (3 : Int32)))] [(.int (((p0.toUInt32 >>> (((2 : Int32) * p2) &&& 31).toUInt32).toInt32) &&& (3 : Int32)))])) _
      refine XS.ifYes X0.here hx rfl (pc0 := 9) (pc' := 15) rfl (hb hby d11_9) rfl ((if0 _ _).trans (feq hc9_2).2) (by decide) (by decide) ?_
      show Steps p.tables e below (s₁.setTop (mkF m 15 #[.val (.int p0), .val (.int p1), .val (.int p2), .val (.int (((p0.toUInt32 >>> (((2 : Int32) * p2) &&& 31).toUInt32).toInt32) &&& (3 : Int32)))] [])) _
      refine XS.iloadN X0.here hx rfl (hb hby d11_15) rfl ?_
      show Steps p.tables e below (s₁.setTop (mkF m 16 #[.val (.int p0), .val (.int p1), .val (.int p2), .val (.int (((p0.toUInt32 >>> (((2 : Int32) * p2) &&& 31).toUInt32).toInt32) &&& (3 : Int32)))] [(.int (((p0.toUInt32 >>> (((2 : Int32) * p2) &&& 31).toUInt32).toInt32) &&& (3 : Int32)))])) _
      refine XS.iconst X0.here hx rfl (hb hby d11_16) ?_
      exact k
    by_cases hc17_5 : (((p0.toUInt32 >>> (((2 : Int32) * p2) &&& 31).toUInt32).toInt32) &&& (3 : Int32)) = (1 : Int32)
    · have pre6 : ∀ t, Steps p.tables e below (s₁.setTop (mkF m 22 #[.val (.int p0), .val (.int p1), .val (.int p2), .val (.int (((p0.toUInt32 >>> (((2 : Int32) * p2) &&& 31).toUInt32).toInt32) &&& (3 : Int32)))] [(.int (13 : Int32))])) t → Steps p.tables e below (s₁.setTop (entryFrame m #[(.int p0), (.int p1), (.int p2)] 4)) t := fun t k => by
        refine pre4 t ?_
        show Steps p.tables e below (s₁.setTop (mkF m 17 #[.val (.int p0), .val (.int p1), .val (.int p2), .val (.int (((p0.toUInt32 >>> (((2 : Int32) * p2) &&& 31).toUInt32).toInt32) &&& (3 : Int32)))] [(.int (1 : Int32)), (.int (((p0.toUInt32 >>> (((2 : Int32) * p2) &&& 31).toUInt32).toInt32) &&& (3 : Int32)))])) _
        refine XS.icmpNo X0.here hx rfl (hb hby d11_17) rfl (teq hc17_5).2 ?_
        show Steps p.tables e below (s₁.setTop (mkF m 20 #[.val (.int p0), .val (.int p1), .val (.int p2), .val (.int (((p0.toUInt32 >>> (((2 : Int32) * p2) &&& 31).toUInt32).toInt32) &&& (3 : Int32)))] [])) _
        refine XS.bipush X0.here hx rfl (hb hby d11_20) ?_
        exact k
      obtain ⟨fs, hrq, hrun, hended, hW, hsame⟩ := X0.leave (v := some (.int (13 : Int32))) (fun h => by rw [Bd.returns] at h; cases h)
      refine ⟨_, _, pre6 _ ?_, hrun, hended, _, _, rfl, ?_, ⟨_, rfl⟩, hW, hsame.mono (by decide) (by decide)⟩
      · show Steps p.tables e below (s₁.setTop (mkF m 22 #[.val (.int p0), .val (.int p1), .val (.int p2), .val (.int (((p0.toUInt32 >>> (((2 : Int32) * p2) &&& 31).toUInt32).toInt32) &&& (3 : Int32)))] [(.int (13 : Int32))])) _
        exact retN X0 hx (t := .byte) Bd.returns (by simp) (hb hby d11_22) hrq
      · show Qpick Z p0 p1 p2 h0 n0 _ s₁.heap _
        rw [e0]
        exact ⟨_, rfl, N0, rfl⟩
    · have pre7 : ∀ t, Steps p.tables e below (s₁.setTop (mkF m 30 #[.val (.int p0), .val (.int p1), .val (.int p2), .val (.int (((p0.toUInt32 >>> (((2 : Int32) * p2) &&& 31).toUInt32).toInt32) &&& (3 : Int32)))] [(.int (((p1.toUInt32 >>> (((8 : Int32) * p2) &&& 31).toUInt32).toInt32).toInt8.toInt32))])) t → Steps p.tables e below (s₁.setTop (entryFrame m #[(.int p0), (.int p1), (.int p2)] 4)) t := fun t k => by
        refine pre4 t ?_
        show Steps p.tables e below (s₁.setTop (mkF m 17 #[.val (.int p0), .val (.int p1), .val (.int p2), .val (.int (((p0.toUInt32 >>> (((2 : Int32) * p2) &&& 31).toUInt32).toInt32) &&& (3 : Int32)))] [(.int (1 : Int32)), (.int (((p0.toUInt32 >>> (((2 : Int32) * p2) &&& 31).toUInt32).toInt32) &&& (3 : Int32)))])) _
        refine XS.icmpYes X0.here hx rfl (pc0 := 17) (pc' := 23) rfl (hb hby d11_17) rfl (feq hc17_5).2 (by decide) (by decide) ?_
        show Steps p.tables e below (s₁.setTop (mkF m 23 #[.val (.int p0), .val (.int p1), .val (.int p2), .val (.int (((p0.toUInt32 >>> (((2 : Int32) * p2) &&& 31).toUInt32).toInt32) &&& (3 : Int32)))] [])) _
        refine XS.iloadN X0.here hx rfl (hb hby d11_23) rfl ?_
        show Steps p.tables e below (s₁.setTop (mkF m 24 #[.val (.int p0), .val (.int p1), .val (.int p2), .val (.int (((p0.toUInt32 >>> (((2 : Int32) * p2) &&& 31).toUInt32).toInt32) &&& (3 : Int32)))] [(.int p1)])) _
        refine XS.bipush X0.here hx rfl (hb hby d11_24) ?_
        show Steps p.tables e below (s₁.setTop (mkF m 26 #[.val (.int p0), .val (.int p1), .val (.int p2), .val (.int (((p0.toUInt32 >>> (((2 : Int32) * p2) &&& 31).toUInt32).toInt32) &&& (3 : Int32)))] [(.int (8 : Int32)), (.int p1)])) _
        refine XS.iloadN X0.here hx rfl (hb hby d11_26) rfl ?_
        show Steps p.tables e below (s₁.setTop (mkF m 27 #[.val (.int p0), .val (.int p1), .val (.int p2), .val (.int (((p0.toUInt32 >>> (((2 : Int32) * p2) &&& 31).toUInt32).toInt32) &&& (3 : Int32)))] [(.int p2), (.int (8 : Int32)), (.int p1)])) _
        refine XS.imul X0.here hx rfl (hb hby d11_27) rfl ?_
        show Steps p.tables e below (s₁.setTop (mkF m 28 #[.val (.int p0), .val (.int p1), .val (.int p2), .val (.int (((p0.toUInt32 >>> (((2 : Int32) * p2) &&& 31).toUInt32).toInt32) &&& (3 : Int32)))] [(.int ((8 : Int32) * p2)), (.int p1)])) _
        refine XS.iushr X0.here hx rfl (hb hby d11_28) rfl ?_
        show Steps p.tables e below (s₁.setTop (mkF m 29 #[.val (.int p0), .val (.int p1), .val (.int p2), .val (.int (((p0.toUInt32 >>> (((2 : Int32) * p2) &&& 31).toUInt32).toInt32) &&& (3 : Int32)))] [(.int ((p1.toUInt32 >>> (((8 : Int32) * p2) &&& 31).toUInt32).toInt32))])) _
        refine XS.i2b X0.here hx rfl (hb hby d11_29) rfl ?_
        exact k
      obtain ⟨fs, hrq, hrun, hended, hW, hsame⟩ := X0.leave (v := some (.int (nar .byte (((p1.toUInt32 >>> (((8 : Int32) * p2) &&& 31).toUInt32).toInt32).toInt8.toInt32)))) (fun h => by rw [Bd.returns] at h; cases h)
      refine ⟨_, _, pre7 _ ?_, hrun, hended, _, _, rfl, ?_, ⟨_, rfl⟩, hW, hsame.mono (by decide) (by decide)⟩
      · show Steps p.tables e below (s₁.setTop (mkF m 30 #[.val (.int p0), .val (.int p1), .val (.int p2), .val (.int (((p0.toUInt32 >>> (((2 : Int32) * p2) &&& 31).toUInt32).toInt32) &&& (3 : Int32)))] [(.int (((p1.toUInt32 >>> (((8 : Int32) * p2) &&& 31).toUInt32).toInt32).toInt8.toInt32))])) _
        exact own_retN X0 hx (t := .byte) Bd.returns (by simp) (hb hby d11_30) rfl hrq
      · show Qpick Z p0 p1 p2 h0 n0 _ s₁.heap _
        rw [e0]
        exact ⟨_, rfl, N0, rfl⟩
theorem pd_0 : parseMethodDescriptor "(III)B" = some ⟨[.int, .int, .int], some .byte⟩ := by decide +kernel
theorem d1_0 : decode method_3_code 0 = .ok (.iload_n 0, 1) := by decide +kernel
theorem d1_1 : decode method_3_code 1 = .ok (.ifCond .ne 7, 3) := by decide +kernel
theorem d1_4 : decode method_3_code 4 = .ok (.iconst 0, 1) := by decide +kernel
theorem d1_5 : decode method_3_code 5 = .ok (.newarray .byte, 2) := by decide +kernel
theorem d1_7 : decode method_3_code 7 = .ok (.areturn, 1) := by decide +kernel
theorem d1_8 : decode method_3_code 8 = .ok (.iload_n 0, 1) := by decide +kernel
theorem d1_9 : decode method_3_code 9 = .ok (.iconst 1, 1) := by decide +kernel
theorem d1_10 : decode method_3_code 10 = .ok (.if_icmp .ne 10, 3) := by decide +kernel
theorem d1_13 : decode method_3_code 13 = .ok (.iconst 1, 1) := by decide +kernel
theorem d1_14 : decode method_3_code 14 = .ok (.newarray .byte, 2) := by decide +kernel
theorem d1_16 : decode method_3_code 16 = .ok (.astore_n 3, 1) := by decide +kernel
theorem d1_17 : decode method_3_code 17 = .ok (.goto 31, 3) := by decide +kernel
theorem d1_20 : decode method_3_code 20 = .ok (.iload_n 0, 1) := by decide +kernel
theorem d1_21 : decode method_3_code 21 = .ok (.iconst 2, 1) := by decide +kernel
theorem d1_22 : decode method_3_code 22 = .ok (.if_icmp .ne 10, 3) := by decide +kernel
theorem d1_25 : decode method_3_code 25 = .ok (.iconst 2, 1) := by decide +kernel
theorem d1_26 : decode method_3_code 26 = .ok (.newarray .byte, 2) := by decide +kernel
theorem d1_28 : decode method_3_code 28 = .ok (.astore_n 3, 1) := by decide +kernel
theorem d1_29 : decode method_3_code 29 = .ok (.goto 19, 3) := by decide +kernel
theorem d1_32 : decode method_3_code 32 = .ok (.iload_n 0, 1) := by decide +kernel
theorem d1_33 : decode method_3_code 33 = .ok (.iconst 3, 1) := by decide +kernel
theorem d1_34 : decode method_3_code 34 = .ok (.if_icmp .ne 10, 3) := by decide +kernel
theorem d1_37 : decode method_3_code 37 = .ok (.iconst 3, 1) := by decide +kernel
theorem d1_38 : decode method_3_code 38 = .ok (.newarray .byte, 2) := by decide +kernel
theorem d1_40 : decode method_3_code 40 = .ok (.astore_n 3, 1) := by decide +kernel
theorem d1_41 : decode method_3_code 41 = .ok (.goto 7, 3) := by decide +kernel
theorem d1_44 : decode method_3_code 44 = .ok (.iconst 4, 1) := by decide +kernel
theorem d1_45 : decode method_3_code 45 = .ok (.newarray .byte, 2) := by decide +kernel
theorem d1_47 : decode method_3_code 47 = .ok (.astore_n 3, 1) := by decide +kernel
theorem d1_48 : decode method_3_code 48 = .ok (.aload_n 3, 1) := by decide +kernel
theorem d1_49 : decode method_3_code 49 = .ok (.iconst 0, 1) := by decide +kernel
theorem d1_50 : decode method_3_code 50 = .ok (.iload_n 1, 1) := by decide +kernel
theorem d1_51 : decode method_3_code 51 = .ok (.iload_n 2, 1) := by decide +kernel
theorem d1_52 : decode method_3_code 52 = .ok (.iconst 0, 1) := by decide +kernel
theorem d1_53 : decode method_3_code 53 = .ok (.invokestatic 7, 3) := by decide +kernel
theorem d1_56 : decode method_3_code 56 = .ok (.bastore, 1) := by decide +kernel
theorem d1_57 : decode method_3_code 57 = .ok (.iload_n 0, 1) := by decide +kernel
theorem d1_58 : decode method_3_code 58 = .ok (.iconst 1, 1) := by decide +kernel
theorem d1_59 : decode method_3_code 59 = .ok (.if_icmp .le 12, 3) := by decide +kernel
theorem d1_62 : decode method_3_code 62 = .ok (.aload_n 3, 1) := by decide +kernel
theorem d1_63 : decode method_3_code 63 = .ok (.iconst 1, 1) := by decide +kernel
theorem d1_64 : decode method_3_code 64 = .ok (.iload_n 1, 1) := by decide +kernel
theorem d1_65 : decode method_3_code 65 = .ok (.iload_n 2, 1) := by decide +kernel
theorem d1_66 : decode method_3_code 66 = .ok (.iconst 1, 1) := by decide +kernel
theorem d1_67 : decode method_3_code 67 = .ok (.invokestatic 7, 3) := by decide +kernel
theorem d1_70 : decode method_3_code 70 = .ok (.bastore, 1) := by decide +kernel
theorem d1_71 : decode method_3_code 71 = .ok (.iload_n 0, 1) := by decide +kernel
theorem d1_72 : decode method_3_code 72 = .ok (.iconst 2, 1) := by decide +kernel
theorem d1_73 : decode method_3_code 73 = .ok (.if_icmp .le 12, 3) := by decide +kernel
theorem d1_76 : decode method_3_code 76 = .ok (.aload_n 3, 1) := by decide +kernel
theorem d1_77 : decode method_3_code 77 = .ok (.iconst 2, 1) := by decide +kernel
theorem d1_78 : decode method_3_code 78 = .ok (.iload_n 1, 1) := by decide +kernel
theorem d1_79 : decode method_3_code 79 = .ok (.iload_n 2, 1) := by decide +kernel
theorem d1_80 : decode method_3_code 80 = .ok (.iconst 2, 1) := by decide +kernel
theorem d1_81 : decode method_3_code 81 = .ok (.invokestatic 7, 3) := by decide +kernel
theorem d1_84 : decode method_3_code 84 = .ok (.bastore, 1) := by decide +kernel
theorem d1_85 : decode method_3_code 85 = .ok (.iload_n 0, 1) := by decide +kernel
theorem d1_86 : decode method_3_code 86 = .ok (.iconst 3, 1) := by decide +kernel
theorem d1_87 : decode method_3_code 87 = .ok (.if_icmp .le 12, 3) := by decide +kernel
theorem d1_90 : decode method_3_code 90 = .ok (.aload_n 3, 1) := by decide +kernel
theorem d1_91 : decode method_3_code 91 = .ok (.iconst 3, 1) := by decide +kernel
theorem d1_92 : decode method_3_code 92 = .ok (.iload_n 1, 1) := by decide +kernel
theorem d1_93 : decode method_3_code 93 = .ok (.iload_n 2, 1) := by decide +kernel
theorem d1_94 : decode method_3_code 94 = .ok (.iconst 3, 1) := by decide +kernel
theorem d1_95 : decode method_3_code 95 = .ok (.invokestatic 7, 3) := by decide +kernel
theorem d1_98 : decode method_3_code 98 = .ok (.bastore, 1) := by decide +kernel
theorem d1_99 : decode method_3_code 99 = .ok (.aload_n 3, 1) := by decide +kernel
theorem d1_100 : decode method_3_code 100 = .ok (.areturn, 1) := by decide +kernel
theorem ef_rmmake (m : MethodId) (x0 : Int32) (x1 : Int32) (x2 : Int32) : entryFrame m #[(.int x0), (.int x1), (.int x2)] 4 = mkF m 0 #[.val (.int x0), .val (.int x1), .val (.int x2), .unset] [] := by first | (simp [entryFrame, mkF, argsToLocals, Value.category]; done) | rfl
def Qmake (Z : State) (z : Int32) (p1 : Int32) (p2 : Int32) (h0 : Heap) (n0 : Nat) (v : Option Value) (h : Heap) (L : List Loc) : Prop := ∃ (ar : Addr) (kk : ClassId) (vs : List Value), v = some (.ref ar) ∧ Fr n0 L ∧ Keep h0 h [] ∧ h0.size ≤ ar ∧ Arv Z h ar kk .byte z vs (.int (0 : Int32))
set_option maxRecDepth 65536 in
set_option maxHeartbeats 40000000 in
theorem rmmake (l : Launch) (Z : State) (a0 : Array Value) (hw : ∀ d ∈ tables_1, d.before a0 Z = true) (ws : List Jvm.Cond) (z : Int32) (p1 : Int32) (p2 : Int32) (h0 : Heap) (n0 : Nat) (Z0 : n0 ≤ h0.size) (hz : z = 0 ∨ z = 1 ∨ z = 2 ∨ z = 3 ∨ z = 4) :
    MetFree l (⟨"quorumkeep/store/ReaderMostMessagesLeftPinLaw", "make", "(III)[B"⟩ : MethodName) (head1 (Jvm.Cond.code (⟨"quorumkeep/store/ReaderMostMessagesLeftPinLaw", "make", "(III)[B"⟩ : MethodName) method_3_code 4 (some (.array .byte)) :: ws) ({ frames := 1, cells := 1, slots := 4, locals := 17 } : Room)) (fun a U => a = #[(.int z), (.int p1), (.int p2)] ∧ Z.Warmed39 U.vm ∧ U.heap = h0) (fun _ _ _ _ _ => True) (fun _ U o U' => ∃ v L, o = .returned v ∧ Qmake Z z p1 p2 h0 n0 v U'.heap L ∧ FrameEnd U o U' L ({ frames := 1, cells := 1, slots := 4, locals := 17 } : Room).cells ({ frames := 1, cells := 1, slots := 4, locals := 17 } : Room).slots) := by
  refine MetFree.of_bodySF (plainFor_of_name pn_0) hisR ?_
  intro p e s0 m args below meth c s₁ Bd hml0 hP hK
  obtain ⟨rfl, hZ, hh⟩ := hP
  have hx := Bd.exec
  have hby := Bd.bytes
  have hml : c.maxLocals = 4 := hml0
  have hown : s0.vm.findClass "quorumkeep/store/ReaderMostMessagesLeftPinLaw" = some m.cls := findClass_of_methodNamed Bd.named
  have hnm := (name_of_methodNamed Bd.named Bd.method).1
  have X0 : Stand p l e ({ frames := 1, cells := 1, slots := 4, locals := 17 } : Room) s0 m #[(.int z), (.int p1), (.int p2)] below meth c s₁ [] 0 0 := Stand.of_body Bd
  have e0 : s₁.heap = h0 := by rw [← hh, Bd.state]; rfl
  have N0 := Fr.nil n0
  have pre0 : ∀ t, Steps p.tables e below (s₁.setTop (mkF m 0 #[.val (.int z), .val (.int p1), .val (.int p2), .unset] [])) t → Steps p.tables e below (s₁.setTop (entryFrame m #[(.int z), (.int p1), (.int p2)] 4)) t := fun t k => castTop (ef_rmmake m z p1 p2) k
  rcases hz with rfl | rfl | rfl | rfl | rfl
  · obtain ⟨T1, h1, k1, X1, e1, E1, A1, st1⟩ := newP X0 hx hZ (hw _ (List.mem_of_getElem? (i := 5) rfl)) e0 (g := (mkF m 5 #[.val (.int (0 : Int32)), .val (.int p1), .val (.int p2), .unset] [(.int (0 : Int32))])) rfl (hb hby d1_5) rfl (by decide) (cap := 0) (by decide) (by decide) (by decide) (by decide)
    obtain ⟨b1, g1⟩ : ∃ z, z = h0.size := ⟨_, rfl⟩
    rw [← g1] at A1 st1
    have g_b1 : n0 ≤ b1 := Nat.le_trans Z0 (Nat.le_of_eq g1.symm)
    have sz_b1 : h0.size ≤ b1 := Nat.le_trans (Keep.refl h0 []).1 (Nat.le_of_eq g1.symm)
    have Z2 : n0 ≤ h1.size := Nat.le_trans Z0 E1.1
    have K1 : Keep h0 h1 [] := (Keep.refl h0 []).ext E1
    have V1 : Arv Z h1 b1 k1 .byte (0 : Int32) [] (.int (0 : Int32)) := (Arv.new A1 (by decide))
    have pre3 : ∀ t, Steps p.tables e below (T1.setTop (mkF m 7 #[.val (.int (0 : Int32)), .val (.int p1), .val (.int p2), .unset] [(.ref b1)])) t → Steps p.tables e below (s₁.setTop (entryFrame m #[(.int (0 : Int32)), (.int p1), (.int p2)] 4)) t := fun t k => by
      refine pre0 t ?_
      show Steps p.tables e below (s₁.setTop (mkF m 0 #[.val (.int (0 : Int32)), .val (.int p1), .val (.int p2), .unset] [])) _
      refine XS.iloadN X0.here hx rfl (hb hby d1_0) rfl ?_
      show Steps p.tables e below (s₁.setTop (mkF m 1 #[.val (.int (0 : Int32)), .val (.int p1), .val (.int p2), .unset] [(.int (0 : Int32))])) _
      refine XS.ifNo X0.here hx rfl (hb hby d1_1) rfl ((if0 _ _).trans (teq (by decide : (0 : Int32) = (0 : Int32))).2) ?_
      show Steps p.tables e below (s₁.setTop (mkF m 4 #[.val (.int (0 : Int32)), .val (.int p1), .val (.int p2), .unset] [])) _
      refine XS.iconst X0.here hx rfl (hb hby d1_4) ?_
      show Steps p.tables e below (s₁.setTop (mkF m 5 #[.val (.int (0 : Int32)), .val (.int p1), .val (.int p2), .unset] [(.int (0 : Int32))])) _
      refine st1 _ ?_
      exact k
    obtain ⟨fs, hrq, hrun, hended, hW, hsame⟩ := X1.leave (v := some (.ref b1)) (fun h => by rw [Bd.returns] at h; cases h)
    refine ⟨_, _, pre3 _ ?_, hrun, hended, _, _, rfl, ?_, ⟨_, rfl⟩, hW, hsame.mono (by decide) (by decide)⟩
    · show Steps p.tables e below (T1.setTop (mkF m 7 #[.val (.int (0 : Int32)), .val (.int p1), .val (.int p2), .unset] [(.ref b1)])) _
      exact retOut X1 hx Bd.returns rfl (Or.inr (Or.inr (Or.inr (Or.inr ⟨rfl, rfl, rfl⟩)))) (hb hby d1_7) hrq
    · show Qmake Z (0 : Int32) p1 p2 h0 n0 _ T1.heap _
      rw [e1]
      exact ⟨_, _, _, rfl, N0, K1, sz_b1, V1⟩
  · obtain ⟨T4, h4, k4, X4, e4, E4, A4, st4⟩ := newP X0 hx hZ (hw _ (List.mem_of_getElem? (i := 5) rfl)) e0 (g := (mkF m 14 #[.val (.int (1 : Int32)), .val (.int p1), .val (.int p2), .unset] [(.int (1 : Int32))])) rfl (hb hby d1_14) rfl (by decide) (cap := 1) (by decide) (by decide) (by decide) (by decide)
    obtain ⟨b4, g4⟩ : ∃ z, z = h0.size := ⟨_, rfl⟩
    rw [← g4] at A4 st4
    have g_b4 : n0 ≤ b4 := Nat.le_trans Z0 (Nat.le_of_eq g4.symm)
    have sz_b4 : h0.size ≤ b4 := Nat.le_trans (Keep.refl h0 []).1 (Nat.le_of_eq g4.symm)
    have Z5 : n0 ≤ h4.size := Nat.le_trans Z0 E4.1
    have K4 : Keep h0 h4 [] := (Keep.refl h0 []).ext E4
    have V4 : Arv Z h4 b4 k4 .byte (1 : Int32) [(.int (0 : Int32))] (.int (0 : Int32)) := (Arv.new A4 (by decide)).pad (pad_rep [] (.int (0 : Int32)) 1)
    obtain ⟨_, _, ⟨T6, L6, k6, n6⟩, -, X6, ⟨Lc6, hQ6, l6, y6, z6⟩, st6⟩ := Jvm.LawKit.callS X4 hx (y := (⟨"quorumkeep/store/ReaderMostMessagesLeftPinLaw", "pick", "(III)B"⟩ : MethodName)) hown (mvT hZ (hw _ (List.mem_of_getElem? (i := 72) rfl))) (mvT hZ (hw _ (List.mem_of_getElem? (i := 73) rfl))) (mvT hZ (hw _ (List.mem_of_getElem? (i := 3) rfl))) (mvT hZ (hw _ (List.mem_of_getElem? (i := 74) rfl))) (by decide) (backOf (W := 2) (rmpick l Z a0 hw [] p1 p2 (0 : Int32) h4 n0 Z5 ) hZ (hw _ (List.mem_of_getElem? (i := 74) rfl)) (hw _ (List.mem_of_getElem? (i := 3) rfl)) (by decide) (by decide)) (g := (mkF m 53 #[.val (.int (1 : Int32)), .val (.int p1), .val (.int p2), .val (.ref b4)] [(.int (0 : Int32)), (.int p2), (.int p1), (.int (0 : Int32)), (.ref b4)])) rfl (by rw [hml]; rfl) (argsL := [(.int p1), (.int p2), (.int (0 : Int32))]) (rest := [(.int (0 : Int32)), (.ref b4)]) (lenOf pd_0 rfl) rfl (by show 2 * 0 + _ ≤ _; exact Nat.le_of_eq rfl) (hb hby d1_53) (fun _ _ => ⟨rfl, e4, (by decide : 1 + 0 ≤ _), (by decide : 1 + 0 ≤ _)⟩)
    dsimp only [Pt.U, Pt.locs, Pt.cells, Pt.slots] at X6 l6 y6 z6 st6 hQ6
    subst l6 y6 z6
    obtain ⟨r6, rfl, Nq6, hh6⟩ := hQ6
    have N6 := Fr.app N0 Nq6
    have e6 : T6.heap = h4 := hh6
    obtain ⟨cl7, Ar7, q7, Sz7, Nz7, Hs7, Gs7⟩ := id V4
    have hin7 : ¬ ((0 : Int32) < 0 ∨ cl7.slots.size ≤ ((0 : Int32)).toNatClampNeg) := inb_of Sz7 ⟨by decide, by decide⟩
    obtain ⟨T8, h8, X8, e8, W8, st8⟩ := stB X6 hx hZ e6 Ar7 (j := (0 : Int32)) hin7 (g := (mkF m 56 #[.val (.int (1 : Int32)), .val (.int p1), .val (.int p2), .val (.ref b4)] [(.int r6), (.int (0 : Int32)), (.ref b4)])) rfl rfl (hb hby d1_56)
    have V8 : Arv Z h8 b4 k4 .byte (1 : Int32) [(.int (nar .byte r6))] (.int (0 : Int32)) := Arv.set Ar7 q7 Sz7 Nz7 Hs7 Gs7 (fits_nar_byte _) W8 0 rfl (Nat.le_of_ble_eq_true rfl)
    have Z9 : n0 ≤ h8.size := Nat.le_trans Z5 (Keep.of_wr W8).1
    have K8 : Keep h0 h8 [] := K4.wr W8 (Or.inr sz_b4)
    have N8 := Fr.snoc X8 N6 g_b4
    have pre10 : ∀ t, Steps p.tables e below (T8.setTop (mkF m 100 #[.val (.int (1 : Int32)), .val (.int p1), .val (.int p2), .val (.ref b4)] [(.ref b4)])) t → Steps p.tables e below (s₁.setTop (entryFrame m #[(.int (1 : Int32)), (.int p1), (.int p2)] 4)) t := fun t k => by
      refine pre0 t ?_
      show Steps p.tables e below (s₁.setTop (mkF m 0 #[.val (.int (1 : Int32)), .val (.int p1), .val (.int p2), .unset] [])) _
      refine XS.iloadN X0.here hx rfl (hb hby d1_0) rfl ?_
      show Steps p.tables e below (s₁.setTop (mkF m 1 #[.val (.int (1 : Int32)), .val (.int p1), .val (.int p2), .unset] [(.int (1 : Int32))])) _
      refine XS.ifYes X0.here hx rfl (pc0 := 1) (pc' := 8) rfl (hb hby d1_1) rfl ((if0 _ _).trans (feq (by decide : ¬ ((1 : Int32) = (0 : Int32)))).2) (by decide) (by decide) ?_
      show Steps p.tables e below (s₁.setTop (mkF m 8 #[.val (.int (1 : Int32)), .val (.int p1), .val (.int p2), .unset] [])) _
      refine XS.iloadN X0.here hx rfl (hb hby d1_8) rfl ?_
      show Steps p.tables e below (s₁.setTop (mkF m 9 #[.val (.int (1 : Int32)), .val (.int p1), .val (.int p2), .unset] [(.int (1 : Int32))])) _
      refine XS.iconst X0.here hx rfl (hb hby d1_9) ?_
      show Steps p.tables e below (s₁.setTop (mkF m 10 #[.val (.int (1 : Int32)), .val (.int p1), .val (.int p2), .unset] [(.int (1 : Int32)), (.int (1 : Int32))])) _
      refine XS.icmpNo X0.here hx rfl (hb hby d1_10) rfl (teq (by decide : (1 : Int32) = (1 : Int32))).2 ?_
      show Steps p.tables e below (s₁.setTop (mkF m 13 #[.val (.int (1 : Int32)), .val (.int p1), .val (.int p2), .unset] [])) _
      refine XS.iconst X0.here hx rfl (hb hby d1_13) ?_
      show Steps p.tables e below (s₁.setTop (mkF m 14 #[.val (.int (1 : Int32)), .val (.int p1), .val (.int p2), .unset] [(.int (1 : Int32))])) _
      refine st4 _ ?_
      show Steps p.tables e below (T4.setTop (mkF m 16 #[.val (.int (1 : Int32)), .val (.int p1), .val (.int p2), .unset] [(.ref b4)])) _
      refine XS.astoreN X4.here hx rfl (hb hby d1_16) rfl rfl (l' := #[.val (.int (1 : Int32)), .val (.int p1), .val (.int p2), .val (.ref b4)]) rfl ?_
      show Steps p.tables e below (T4.setTop (mkF m 17 #[.val (.int (1 : Int32)), .val (.int p1), .val (.int p2), .val (.ref b4)] [])) _
      refine XS.goto X4.here hx rfl (pc0 := 17) (pc' := 48) rfl (hb hby d1_17) (by decide) (by decide) ?_
      show Steps p.tables e below (T4.setTop (mkF m 48 #[.val (.int (1 : Int32)), .val (.int p1), .val (.int p2), .val (.ref b4)] [])) _
      refine XS.aloadN X4.here hx rfl (hb hby d1_48) rfl rfl ?_
      show Steps p.tables e below (T4.setTop (mkF m 49 #[.val (.int (1 : Int32)), .val (.int p1), .val (.int p2), .val (.ref b4)] [(.ref b4)])) _
      refine XS.iconst X4.here hx rfl (hb hby d1_49) ?_
      show Steps p.tables e below (T4.setTop (mkF m 50 #[.val (.int (1 : Int32)), .val (.int p1), .val (.int p2), .val (.ref b4)] [(.int (0 : Int32)), (.ref b4)])) _
      refine XS.iloadN X4.here hx rfl (hb hby d1_50) rfl ?_
      show Steps p.tables e below (T4.setTop (mkF m 51 #[.val (.int (1 : Int32)), .val (.int p1), .val (.int p2), .val (.ref b4)] [(.int p1), (.int (0 : Int32)), (.ref b4)])) _
      refine XS.iloadN X4.here hx rfl (hb hby d1_51) rfl ?_
      show Steps p.tables e below (T4.setTop (mkF m 52 #[.val (.int (1 : Int32)), .val (.int p1), .val (.int p2), .val (.ref b4)] [(.int p2), (.int p1), (.int (0 : Int32)), (.ref b4)])) _
      refine XS.iconst X4.here hx rfl (hb hby d1_52) ?_
      show Steps p.tables e below (T4.setTop (mkF m 53 #[.val (.int (1 : Int32)), .val (.int p1), .val (.int p2), .val (.ref b4)] [(.int (0 : Int32)), (.int p2), (.int p1), (.int (0 : Int32)), (.ref b4)])) _
      refine st6 _ ?_
      show Steps p.tables e below (T6.setTop (mkF m 56 #[.val (.int (1 : Int32)), .val (.int p1), .val (.int p2), .val (.ref b4)] [(.int r6), (.int (0 : Int32)), (.ref b4)])) _
      refine st8 _ ?_
      show Steps p.tables e below (T8.setTop (mkF m 57 #[.val (.int (1 : Int32)), .val (.int p1), .val (.int p2), .val (.ref b4)] [])) _
      refine XS.iloadN X8.here hx rfl (hb hby d1_57) rfl ?_
      show Steps p.tables e below (T8.setTop (mkF m 58 #[.val (.int (1 : Int32)), .val (.int p1), .val (.int p2), .val (.ref b4)] [(.int (1 : Int32))])) _
      refine XS.iconst X8.here hx rfl (hb hby d1_58) ?_
      show Steps p.tables e below (T8.setTop (mkF m 59 #[.val (.int (1 : Int32)), .val (.int p1), .val (.int p2), .val (.ref b4)] [(.int (1 : Int32)), (.int (1 : Int32))])) _
      refine XS.icmpYes X8.here hx rfl (pc0 := 59) (pc' := 71) rfl (hb hby d1_59) rfl (flt (by decide : ¬ ((1 : Int32) < (1 : Int32)))).2.2.2 (by decide) (by decide) ?_
      show Steps p.tables e below (T8.setTop (mkF m 71 #[.val (.int (1 : Int32)), .val (.int p1), .val (.int p2), .val (.ref b4)] [])) _
      refine XS.iloadN X8.here hx rfl (hb hby d1_71) rfl ?_
      show Steps p.tables e below (T8.setTop (mkF m 72 #[.val (.int (1 : Int32)), .val (.int p1), .val (.int p2), .val (.ref b4)] [(.int (1 : Int32))])) _
      refine XS.iconst X8.here hx rfl (hb hby d1_72) ?_
      show Steps p.tables e below (T8.setTop (mkF m 73 #[.val (.int (1 : Int32)), .val (.int p1), .val (.int p2), .val (.ref b4)] [(.int (2 : Int32)), (.int (1 : Int32))])) _
      refine XS.icmpYes X8.here hx rfl (pc0 := 73) (pc' := 85) rfl (hb hby d1_73) rfl (flt (by decide : ¬ ((2 : Int32) < (1 : Int32)))).2.2.2 (by decide) (by decide) ?_
      show Steps p.tables e below (T8.setTop (mkF m 85 #[.val (.int (1 : Int32)), .val (.int p1), .val (.int p2), .val (.ref b4)] [])) _
      refine XS.iloadN X8.here hx rfl (hb hby d1_85) rfl ?_
      show Steps p.tables e below (T8.setTop (mkF m 86 #[.val (.int (1 : Int32)), .val (.int p1), .val (.int p2), .val (.ref b4)] [(.int (1 : Int32))])) _
      refine XS.iconst X8.here hx rfl (hb hby d1_86) ?_
      show Steps p.tables e below (T8.setTop (mkF m 87 #[.val (.int (1 : Int32)), .val (.int p1), .val (.int p2), .val (.ref b4)] [(.int (3 : Int32)), (.int (1 : Int32))])) _
      refine XS.icmpYes X8.here hx rfl (pc0 := 87) (pc' := 99) rfl (hb hby d1_87) rfl (flt (by decide : ¬ ((3 : Int32) < (1 : Int32)))).2.2.2 (by decide) (by decide) ?_
      show Steps p.tables e below (T8.setTop (mkF m 99 #[.val (.int (1 : Int32)), .val (.int p1), .val (.int p2), .val (.ref b4)] [])) _
      refine XS.aloadN X8.here hx rfl (hb hby d1_99) rfl rfl ?_
      exact k
    obtain ⟨fs, hrq, hrun, hended, hW, hsame⟩ := X8.leave (v := some (.ref b4)) (fun h => by rw [Bd.returns] at h; cases h)
    refine ⟨_, _, pre10 _ ?_, hrun, hended, _, _, rfl, ?_, ⟨_, rfl⟩, hW, hsame.mono (by decide) (by decide)⟩
    · show Steps p.tables e below (T8.setTop (mkF m 100 #[.val (.int (1 : Int32)), .val (.int p1), .val (.int p2), .val (.ref b4)] [(.ref b4)])) _
      exact retOut X8 hx Bd.returns rfl (Or.inr (Or.inr (Or.inr (Or.inr ⟨rfl, rfl, rfl⟩)))) (hb hby d1_100) hrq
    · show Qmake Z (1 : Int32) p1 p2 h0 n0 _ T8.heap _
      rw [e8]
      exact ⟨_, _, _, rfl, N8, K8, sz_b4, V8⟩
  · obtain ⟨T11, h11, k11, X11, e11, E11, A11, st11⟩ := newP X0 hx hZ (hw _ (List.mem_of_getElem? (i := 5) rfl)) e0 (g := (mkF m 26 #[.val (.int (2 : Int32)), .val (.int p1), .val (.int p2), .unset] [(.int (2 : Int32))])) rfl (hb hby d1_26) rfl (by decide) (cap := 2) (by decide) (by decide) (by decide) (by decide)
    obtain ⟨b11, g11⟩ : ∃ z, z = h0.size := ⟨_, rfl⟩
    rw [← g11] at A11 st11
    have g_b11 : n0 ≤ b11 := Nat.le_trans Z0 (Nat.le_of_eq g11.symm)
    have sz_b11 : h0.size ≤ b11 := Nat.le_trans (Keep.refl h0 []).1 (Nat.le_of_eq g11.symm)
    have Z12 : n0 ≤ h11.size := Nat.le_trans Z0 E11.1
    have K11 : Keep h0 h11 [] := (Keep.refl h0 []).ext E11
    have V11 : Arv Z h11 b11 k11 .byte (2 : Int32) [(.int (0 : Int32)), (.int (0 : Int32))] (.int (0 : Int32)) := (Arv.new A11 (by decide)).pad (pad_rep [] (.int (0 : Int32)) 2)
    obtain ⟨_, _, ⟨T13, L13, k13, n13⟩, -, X13, ⟨Lc13, hQ13, l13, y13, z13⟩, st13⟩ := Jvm.LawKit.callS X11 hx (y := (⟨"quorumkeep/store/ReaderMostMessagesLeftPinLaw", "pick", "(III)B"⟩ : MethodName)) hown (mvT hZ (hw _ (List.mem_of_getElem? (i := 72) rfl))) (mvT hZ (hw _ (List.mem_of_getElem? (i := 73) rfl))) (mvT hZ (hw _ (List.mem_of_getElem? (i := 3) rfl))) (mvT hZ (hw _ (List.mem_of_getElem? (i := 74) rfl))) (by decide) (backOf (W := 2) (rmpick l Z a0 hw [] p1 p2 (0 : Int32) h11 n0 Z12 ) hZ (hw _ (List.mem_of_getElem? (i := 74) rfl)) (hw _ (List.mem_of_getElem? (i := 3) rfl)) (by decide) (by decide)) (g := (mkF m 53 #[.val (.int (2 : Int32)), .val (.int p1), .val (.int p2), .val (.ref b11)] [(.int (0 : Int32)), (.int p2), (.int p1), (.int (0 : Int32)), (.ref b11)])) rfl (by rw [hml]; rfl) (argsL := [(.int p1), (.int p2), (.int (0 : Int32))]) (rest := [(.int (0 : Int32)), (.ref b11)]) (lenOf pd_0 rfl) rfl (by show 2 * 0 + _ ≤ _; exact Nat.le_of_eq rfl) (hb hby d1_53) (fun _ _ => ⟨rfl, e11, (by decide : 1 + 0 ≤ _), (by decide : 2 + 0 ≤ _)⟩)
    dsimp only [Pt.U, Pt.locs, Pt.cells, Pt.slots] at X13 l13 y13 z13 st13 hQ13
    subst l13 y13 z13
    obtain ⟨r13, rfl, Nq13, hh13⟩ := hQ13
    have N13 := Fr.app N0 Nq13
    have e13 : T13.heap = h11 := hh13
    obtain ⟨cl14, Ar14, q14, Sz14, Nz14, Hs14, Gs14⟩ := id V11
    have hin14 : ¬ ((0 : Int32) < 0 ∨ cl14.slots.size ≤ ((0 : Int32)).toNatClampNeg) := inb_of Sz14 ⟨by decide, by decide⟩
    obtain ⟨T15, h15, X15, e15, W15, st15⟩ := stB X13 hx hZ e13 Ar14 (j := (0 : Int32)) hin14 (g := (mkF m 56 #[.val (.int (2 : Int32)), .val (.int p1), .val (.int p2), .val (.ref b11)] [(.int r13), (.int (0 : Int32)), (.ref b11)])) rfl rfl (hb hby d1_56)
    have V15 : Arv Z h15 b11 k11 .byte (2 : Int32) [(.int (nar .byte r13)), (.int (0 : Int32))] (.int (0 : Int32)) := Arv.set Ar14 q14 Sz14 Nz14 Hs14 Gs14 (fits_nar_byte _) W15 0 rfl (Nat.le_of_ble_eq_true rfl)
    have Z16 : n0 ≤ h15.size := Nat.le_trans Z12 (Keep.of_wr W15).1
    have K15 : Keep h0 h15 [] := K11.wr W15 (Or.inr sz_b11)
    have N15 := Fr.snoc X15 N13 g_b11
    obtain ⟨_, _, ⟨T17, L17, k17, n17⟩, -, X17, ⟨Lc17, hQ17, l17, y17, z17⟩, st17⟩ := Jvm.LawKit.callS X15 hx (y := (⟨"quorumkeep/store/ReaderMostMessagesLeftPinLaw", "pick", "(III)B"⟩ : MethodName)) hown (mvT hZ (hw _ (List.mem_of_getElem? (i := 72) rfl))) (mvT hZ (hw _ (List.mem_of_getElem? (i := 73) rfl))) (mvT hZ (hw _ (List.mem_of_getElem? (i := 3) rfl))) (mvT hZ (hw _ (List.mem_of_getElem? (i := 74) rfl))) (by decide) (backOf (W := 2) (rmpick l Z a0 hw [] p1 p2 (1 : Int32) h15 n0 Z16 ) hZ (hw _ (List.mem_of_getElem? (i := 74) rfl)) (hw _ (List.mem_of_getElem? (i := 3) rfl)) (by decide) (by decide)) (g := (mkF m 67 #[.val (.int (2 : Int32)), .val (.int p1), .val (.int p2), .val (.ref b11)] [(.int (1 : Int32)), (.int p2), (.int p1), (.int (1 : Int32)), (.ref b11)])) rfl (by rw [hml]; rfl) (argsL := [(.int p1), (.int p2), (.int (1 : Int32))]) (rest := [(.int (1 : Int32)), (.ref b11)]) (lenOf pd_0 rfl) rfl (by show 2 * 0 + _ ≤ _; exact Nat.le_of_eq rfl) (hb hby d1_67) (fun _ _ => ⟨rfl, e15, (by decide : 1 + 0 ≤ _), (by decide : 2 + 0 ≤ _)⟩)
    dsimp only [Pt.U, Pt.locs, Pt.cells, Pt.slots] at X17 l17 y17 z17 st17 hQ17
    subst l17 y17 z17
    obtain ⟨r17, rfl, Nq17, hh17⟩ := hQ17
    have N17 := Fr.app N15 Nq17
    have e17 : T17.heap = h15 := hh17
    obtain ⟨cl18, Ar18, q18, Sz18, Nz18, Hs18, Gs18⟩ := id V15
    have hin18 : ¬ ((1 : Int32) < 0 ∨ cl18.slots.size ≤ ((1 : Int32)).toNatClampNeg) := inb_of Sz18 ⟨by decide, by decide⟩
    obtain ⟨T19, h19, X19, e19, W19, st19⟩ := stB X17 hx hZ e17 Ar18 (j := (1 : Int32)) hin18 (g := (mkF m 70 #[.val (.int (2 : Int32)), .val (.int p1), .val (.int p2), .val (.ref b11)] [(.int r17), (.int (1 : Int32)), (.ref b11)])) rfl rfl (hb hby d1_70)
    have V19 : Arv Z h19 b11 k11 .byte (2 : Int32) [(.int (nar .byte r13)), (.int (nar .byte r17))] (.int (0 : Int32)) := Arv.set Ar18 q18 Sz18 Nz18 Hs18 Gs18 (fits_nar_byte _) W19 1 rfl (Nat.le_of_ble_eq_true rfl)
    have Z20 : n0 ≤ h19.size := Nat.le_trans Z16 (Keep.of_wr W19).1
    have K19 : Keep h0 h19 [] := K15.wr W19 (Or.inr sz_b11)
    have N19 := Fr.snoc X19 N17 g_b11
    have pre21 : ∀ t, Steps p.tables e below (T19.setTop (mkF m 100 #[.val (.int (2 : Int32)), .val (.int p1), .val (.int p2), .val (.ref b11)] [(.ref b11)])) t → Steps p.tables e below (s₁.setTop (entryFrame m #[(.int (2 : Int32)), (.int p1), (.int p2)] 4)) t := fun t k => by
      refine pre0 t ?_
      show Steps p.tables e below (s₁.setTop (mkF m 0 #[.val (.int (2 : Int32)), .val (.int p1), .val (.int p2), .unset] [])) _
      refine XS.iloadN X0.here hx rfl (hb hby d1_0) rfl ?_
      show Steps p.tables e below (s₁.setTop (mkF m 1 #[.val (.int (2 : Int32)), .val (.int p1), .val (.int p2), .unset] [(.int (2 : Int32))])) _
      refine XS.ifYes X0.here hx rfl (pc0 := 1) (pc' := 8) rfl (hb hby d1_1) rfl ((if0 _ _).trans (feq (by decide : ¬ ((2 : Int32) = (0 : Int32)))).2) (by decide) (by decide) ?_
      show Steps p.tables e below (s₁.setTop (mkF m 8 #[.val (.int (2 : Int32)), .val (.int p1), .val (.int p2), .unset] [])) _
      refine XS.iloadN X0.here hx rfl (hb hby d1_8) rfl ?_
      show Steps p.tables e below (s₁.setTop (mkF m 9 #[.val (.int (2 : Int32)), .val (.int p1), .val (.int p2), .unset] [(.int (2 : Int32))])) _
      refine XS.iconst X0.here hx rfl (hb hby d1_9) ?_
      show Steps p.tables e below (s₁.setTop (mkF m 10 #[.val (.int (2 : Int32)), .val (.int p1), .val (.int p2), .unset] [(.int (1 : Int32)), (.int (2 : Int32))])) _
      refine XS.icmpYes X0.here hx rfl (pc0 := 10) (pc' := 20) rfl (hb hby d1_10) rfl (feq (by decide : ¬ ((2 : Int32) = (1 : Int32)))).2 (by decide) (by decide) ?_
      show Steps p.tables e below (s₁.setTop (mkF m 20 #[.val (.int (2 : Int32)), .val (.int p1), .val (.int p2), .unset] [])) _
      refine XS.iloadN X0.here hx rfl (hb hby d1_20) rfl ?_
      show Steps p.tables e below (s₁.setTop (mkF m 21 #[.val (.int (2 : Int32)), .val (.int p1), .val (.int p2), .unset] [(.int (2 : Int32))])) _
      refine XS.iconst X0.here hx rfl (hb hby d1_21) ?_
      show Steps p.tables e below (s₁.setTop (mkF m 22 #[.val (.int (2 : Int32)), .val (.int p1), .val (.int p2), .unset] [(.int (2 : Int32)), (.int (2 : Int32))])) _
      refine XS.icmpNo X0.here hx rfl (hb hby d1_22) rfl (teq (by decide : (2 : Int32) = (2 : Int32))).2 ?_
      show Steps p.tables e below (s₁.setTop (mkF m 25 #[.val (.int (2 : Int32)), .val (.int p1), .val (.int p2), .unset] [])) _
      refine XS.iconst X0.here hx rfl (hb hby d1_25) ?_
      show Steps p.tables e below (s₁.setTop (mkF m 26 #[.val (.int (2 : Int32)), .val (.int p1), .val (.int p2), .unset] [(.int (2 : Int32))])) _
      refine st11 _ ?_
      show Steps p.tables e below (T11.setTop (mkF m 28 #[.val (.int (2 : Int32)), .val (.int p1), .val (.int p2), .unset] [(.ref b11)])) _
      refine XS.astoreN X11.here hx rfl (hb hby d1_28) rfl rfl (l' := #[.val (.int (2 : Int32)), .val (.int p1), .val (.int p2), .val (.ref b11)]) rfl ?_
      show Steps p.tables e below (T11.setTop (mkF m 29 #[.val (.int (2 : Int32)), .val (.int p1), .val (.int p2), .val (.ref b11)] [])) _
      refine XS.goto X11.here hx rfl (pc0 := 29) (pc' := 48) rfl (hb hby d1_29) (by decide) (by decide) ?_
      show Steps p.tables e below (T11.setTop (mkF m 48 #[.val (.int (2 : Int32)), .val (.int p1), .val (.int p2), .val (.ref b11)] [])) _
      refine XS.aloadN X11.here hx rfl (hb hby d1_48) rfl rfl ?_
      show Steps p.tables e below (T11.setTop (mkF m 49 #[.val (.int (2 : Int32)), .val (.int p1), .val (.int p2), .val (.ref b11)] [(.ref b11)])) _
      refine XS.iconst X11.here hx rfl (hb hby d1_49) ?_
      show Steps p.tables e below (T11.setTop (mkF m 50 #[.val (.int (2 : Int32)), .val (.int p1), .val (.int p2), .val (.ref b11)] [(.int (0 : Int32)), (.ref b11)])) _
      refine XS.iloadN X11.here hx rfl (hb hby d1_50) rfl ?_
      show Steps p.tables e below (T11.setTop (mkF m 51 #[.val (.int (2 : Int32)), .val (.int p1), .val (.int p2), .val (.ref b11)] [(.int p1), (.int (0 : Int32)), (.ref b11)])) _
      refine XS.iloadN X11.here hx rfl (hb hby d1_51) rfl ?_
      show Steps p.tables e below (T11.setTop (mkF m 52 #[.val (.int (2 : Int32)), .val (.int p1), .val (.int p2), .val (.ref b11)] [(.int p2), (.int p1), (.int (0 : Int32)), (.ref b11)])) _
      refine XS.iconst X11.here hx rfl (hb hby d1_52) ?_
      show Steps p.tables e below (T11.setTop (mkF m 53 #[.val (.int (2 : Int32)), .val (.int p1), .val (.int p2), .val (.ref b11)] [(.int (0 : Int32)), (.int p2), (.int p1), (.int (0 : Int32)), (.ref b11)])) _
      refine st13 _ ?_
      show Steps p.tables e below (T13.setTop (mkF m 56 #[.val (.int (2 : Int32)), .val (.int p1), .val (.int p2), .val (.ref b11)] [(.int r13), (.int (0 : Int32)), (.ref b11)])) _
      refine st15 _ ?_
      show Steps p.tables e below (T15.setTop (mkF m 57 #[.val (.int (2 : Int32)), .val (.int p1), .val (.int p2), .val (.ref b11)] [])) _
      refine XS.iloadN X15.here hx rfl (hb hby d1_57) rfl ?_
      show Steps p.tables e below (T15.setTop (mkF m 58 #[.val (.int (2 : Int32)), .val (.int p1), .val (.int p2), .val (.ref b11)] [(.int (2 : Int32))])) _
      refine XS.iconst X15.here hx rfl (hb hby d1_58) ?_
      show Steps p.tables e below (T15.setTop (mkF m 59 #[.val (.int (2 : Int32)), .val (.int p1), .val (.int p2), .val (.ref b11)] [(.int (1 : Int32)), (.int (2 : Int32))])) _
      refine XS.icmpNo X15.here hx rfl (hb hby d1_59) rfl (tlt (by decide : (1 : Int32) < (2 : Int32))).2.2.2 ?_
      show Steps p.tables e below (T15.setTop (mkF m 62 #[.val (.int (2 : Int32)), .val (.int p1), .val (.int p2), .val (.ref b11)] [])) _
      refine XS.aloadN X15.here hx rfl (hb hby d1_62) rfl rfl ?_
      show Steps p.tables e below (T15.setTop (mkF m 63 #[.val (.int (2 : Int32)), .val (.int p1), .val (.int p2), .val (.ref b11)] [(.ref b11)])) _
      refine XS.iconst X15.here hx rfl (hb hby d1_63) ?_
      show Steps p.tables e below (T15.setTop (mkF m 64 #[.val (.int (2 : Int32)), .val (.int p1), .val (.int p2), .val (.ref b11)] [(.int (1 : Int32)), (.ref b11)])) _
      refine XS.iloadN X15.here hx rfl (hb hby d1_64) rfl ?_
      show Steps p.tables e below (T15.setTop (mkF m 65 #[.val (.int (2 : Int32)), .val (.int p1), .val (.int p2), .val (.ref b11)] [(.int p1), (.int (1 : Int32)), (.ref b11)])) _
      refine XS.iloadN X15.here hx rfl (hb hby d1_65) rfl ?_
      show Steps p.tables e below (T15.setTop (mkF m 66 #[.val (.int (2 : Int32)), .val (.int p1), .val (.int p2), .val (.ref b11)] [(.int p2), (.int p1), (.int (1 : Int32)), (.ref b11)])) _
      refine XS.iconst X15.here hx rfl (hb hby d1_66) ?_
      show Steps p.tables e below (T15.setTop (mkF m 67 #[.val (.int (2 : Int32)), .val (.int p1), .val (.int p2), .val (.ref b11)] [(.int (1 : Int32)), (.int p2), (.int p1), (.int (1 : Int32)), (.ref b11)])) _
      refine st17 _ ?_
      show Steps p.tables e below (T17.setTop (mkF m 70 #[.val (.int (2 : Int32)), .val (.int p1), .val (.int p2), .val (.ref b11)] [(.int r17), (.int (1 : Int32)), (.ref b11)])) _
      refine st19 _ ?_
      show Steps p.tables e below (T19.setTop (mkF m 71 #[.val (.int (2 : Int32)), .val (.int p1), .val (.int p2), .val (.ref b11)] [])) _
      refine XS.iloadN X19.here hx rfl (hb hby d1_71) rfl ?_
      show Steps p.tables e below (T19.setTop (mkF m 72 #[.val (.int (2 : Int32)), .val (.int p1), .val (.int p2), .val (.ref b11)] [(.int (2 : Int32))])) _
      refine XS.iconst X19.here hx rfl (hb hby d1_72) ?_
      show Steps p.tables e below (T19.setTop (mkF m 73 #[.val (.int (2 : Int32)), .val (.int p1), .val (.int p2), .val (.ref b11)] [(.int (2 : Int32)), (.int (2 : Int32))])) _
      refine XS.icmpYes X19.here hx rfl (pc0 := 73) (pc' := 85) rfl (hb hby d1_73) rfl (flt (by decide : ¬ ((2 : Int32) < (2 : Int32)))).2.2.2 (by decide) (by decide) ?_
      show Steps p.tables e below (T19.setTop (mkF m 85 #[.val (.int (2 : Int32)), .val (.int p1), .val (.int p2), .val (.ref b11)] [])) _
      refine XS.iloadN X19.here hx rfl (hb hby d1_85) rfl ?_
      show Steps p.tables e below (T19.setTop (mkF m 86 #[.val (.int (2 : Int32)), .val (.int p1), .val (.int p2), .val (.ref b11)] [(.int (2 : Int32))])) _
      refine XS.iconst X19.here hx rfl (hb hby d1_86) ?_
      show Steps p.tables e below (T19.setTop (mkF m 87 #[.val (.int (2 : Int32)), .val (.int p1), .val (.int p2), .val (.ref b11)] [(.int (3 : Int32)), (.int (2 : Int32))])) _
      refine XS.icmpYes X19.here hx rfl (pc0 := 87) (pc' := 99) rfl (hb hby d1_87) rfl (flt (by decide : ¬ ((3 : Int32) < (2 : Int32)))).2.2.2 (by decide) (by decide) ?_
      show Steps p.tables e below (T19.setTop (mkF m 99 #[.val (.int (2 : Int32)), .val (.int p1), .val (.int p2), .val (.ref b11)] [])) _
      refine XS.aloadN X19.here hx rfl (hb hby d1_99) rfl rfl ?_
      exact k
    obtain ⟨fs, hrq, hrun, hended, hW, hsame⟩ := X19.leave (v := some (.ref b11)) (fun h => by rw [Bd.returns] at h; cases h)
    refine ⟨_, _, pre21 _ ?_, hrun, hended, _, _, rfl, ?_, ⟨_, rfl⟩, hW, hsame.mono (by decide) (by decide)⟩
    · show Steps p.tables e below (T19.setTop (mkF m 100 #[.val (.int (2 : Int32)), .val (.int p1), .val (.int p2), .val (.ref b11)] [(.ref b11)])) _
      exact retOut X19 hx Bd.returns rfl (Or.inr (Or.inr (Or.inr (Or.inr ⟨rfl, rfl, rfl⟩)))) (hb hby d1_100) hrq
    · show Qmake Z (2 : Int32) p1 p2 h0 n0 _ T19.heap _
      rw [e19]
      exact ⟨_, _, _, rfl, N19, K19, sz_b11, V19⟩
  · obtain ⟨T22, h22, k22, X22, e22, E22, A22, st22⟩ := newP X0 hx hZ (hw _ (List.mem_of_getElem? (i := 5) rfl)) e0 (g := (mkF m 38 #[.val (.int (3 : Int32)), .val (.int p1), .val (.int p2), .unset] [(.int (3 : Int32))])) rfl (hb hby d1_38) rfl (by decide) (cap := 3) (by decide) (by decide) (by decide) (by decide)
    obtain ⟨b22, g22⟩ : ∃ z, z = h0.size := ⟨_, rfl⟩
    rw [← g22] at A22 st22
    have g_b22 : n0 ≤ b22 := Nat.le_trans Z0 (Nat.le_of_eq g22.symm)
    have sz_b22 : h0.size ≤ b22 := Nat.le_trans (Keep.refl h0 []).1 (Nat.le_of_eq g22.symm)
    have Z23 : n0 ≤ h22.size := Nat.le_trans Z0 E22.1
    have K22 : Keep h0 h22 [] := (Keep.refl h0 []).ext E22
    have V22 : Arv Z h22 b22 k22 .byte (3 : Int32) [(.int (0 : Int32)), (.int (0 : Int32)), (.int (0 : Int32))] (.int (0 : Int32)) := (Arv.new A22 (by decide)).pad (pad_rep [] (.int (0 : Int32)) 3)
    obtain ⟨_, _, ⟨T24, L24, k24, n24⟩, -, X24, ⟨Lc24, hQ24, l24, y24, z24⟩, st24⟩ := Jvm.LawKit.callS X22 hx (y := (⟨"quorumkeep/store/ReaderMostMessagesLeftPinLaw", "pick", "(III)B"⟩ : MethodName)) hown (mvT hZ (hw _ (List.mem_of_getElem? (i := 72) rfl))) (mvT hZ (hw _ (List.mem_of_getElem? (i := 73) rfl))) (mvT hZ (hw _ (List.mem_of_getElem? (i := 3) rfl))) (mvT hZ (hw _ (List.mem_of_getElem? (i := 74) rfl))) (by decide) (backOf (W := 2) (rmpick l Z a0 hw [] p1 p2 (0 : Int32) h22 n0 Z23 ) hZ (hw _ (List.mem_of_getElem? (i := 74) rfl)) (hw _ (List.mem_of_getElem? (i := 3) rfl)) (by decide) (by decide)) (g := (mkF m 53 #[.val (.int (3 : Int32)), .val (.int p1), .val (.int p2), .val (.ref b22)] [(.int (0 : Int32)), (.int p2), (.int p1), (.int (0 : Int32)), (.ref b22)])) rfl (by rw [hml]; rfl) (argsL := [(.int p1), (.int p2), (.int (0 : Int32))]) (rest := [(.int (0 : Int32)), (.ref b22)]) (lenOf pd_0 rfl) rfl (by show 2 * 0 + _ ≤ _; exact Nat.le_of_eq rfl) (hb hby d1_53) (fun _ _ => ⟨rfl, e22, (by decide : 1 + 0 ≤ _), (by decide : 3 + 0 ≤ _)⟩)
    dsimp only [Pt.U, Pt.locs, Pt.cells, Pt.slots] at X24 l24 y24 z24 st24 hQ24
    subst l24 y24 z24
    obtain ⟨r24, rfl, Nq24, hh24⟩ := hQ24
    have N24 := Fr.app N0 Nq24
    have e24 : T24.heap = h22 := hh24
    obtain ⟨cl25, Ar25, q25, Sz25, Nz25, Hs25, Gs25⟩ := id V22
    have hin25 : ¬ ((0 : Int32) < 0 ∨ cl25.slots.size ≤ ((0 : Int32)).toNatClampNeg) := inb_of Sz25 ⟨by decide, by decide⟩
    obtain ⟨T26, h26, X26, e26, W26, st26⟩ := stB X24 hx hZ e24 Ar25 (j := (0 : Int32)) hin25 (g := (mkF m 56 #[.val (.int (3 : Int32)), .val (.int p1), .val (.int p2), .val (.ref b22)] [(.int r24), (.int (0 : Int32)), (.ref b22)])) rfl rfl (hb hby d1_56)
    have V26 : Arv Z h26 b22 k22 .byte (3 : Int32) [(.int (nar .byte r24)), (.int (0 : Int32)), (.int (0 : Int32))] (.int (0 : Int32)) := Arv.set Ar25 q25 Sz25 Nz25 Hs25 Gs25 (fits_nar_byte _) W26 0 rfl (Nat.le_of_ble_eq_true rfl)
    have Z27 : n0 ≤ h26.size := Nat.le_trans Z23 (Keep.of_wr W26).1
    have K26 : Keep h0 h26 [] := K22.wr W26 (Or.inr sz_b22)
    have N26 := Fr.snoc X26 N24 g_b22
    obtain ⟨_, _, ⟨T28, L28, k28, n28⟩, -, X28, ⟨Lc28, hQ28, l28, y28, z28⟩, st28⟩ := Jvm.LawKit.callS X26 hx (y := (⟨"quorumkeep/store/ReaderMostMessagesLeftPinLaw", "pick", "(III)B"⟩ : MethodName)) hown (mvT hZ (hw _ (List.mem_of_getElem? (i := 72) rfl))) (mvT hZ (hw _ (List.mem_of_getElem? (i := 73) rfl))) (mvT hZ (hw _ (List.mem_of_getElem? (i := 3) rfl))) (mvT hZ (hw _ (List.mem_of_getElem? (i := 74) rfl))) (by decide) (backOf (W := 2) (rmpick l Z a0 hw [] p1 p2 (1 : Int32) h26 n0 Z27 ) hZ (hw _ (List.mem_of_getElem? (i := 74) rfl)) (hw _ (List.mem_of_getElem? (i := 3) rfl)) (by decide) (by decide)) (g := (mkF m 67 #[.val (.int (3 : Int32)), .val (.int p1), .val (.int p2), .val (.ref b22)] [(.int (1 : Int32)), (.int p2), (.int p1), (.int (1 : Int32)), (.ref b22)])) rfl (by rw [hml]; rfl) (argsL := [(.int p1), (.int p2), (.int (1 : Int32))]) (rest := [(.int (1 : Int32)), (.ref b22)]) (lenOf pd_0 rfl) rfl (by show 2 * 0 + _ ≤ _; exact Nat.le_of_eq rfl) (hb hby d1_67) (fun _ _ => ⟨rfl, e26, (by decide : 1 + 0 ≤ _), (by decide : 3 + 0 ≤ _)⟩)
    dsimp only [Pt.U, Pt.locs, Pt.cells, Pt.slots] at X28 l28 y28 z28 st28 hQ28
    subst l28 y28 z28
    obtain ⟨r28, rfl, Nq28, hh28⟩ := hQ28
    have N28 := Fr.app N26 Nq28
    have e28 : T28.heap = h26 := hh28
    obtain ⟨cl29, Ar29, q29, Sz29, Nz29, Hs29, Gs29⟩ := id V26
    have hin29 : ¬ ((1 : Int32) < 0 ∨ cl29.slots.size ≤ ((1 : Int32)).toNatClampNeg) := inb_of Sz29 ⟨by decide, by decide⟩
    obtain ⟨T30, h30, X30, e30, W30, st30⟩ := stB X28 hx hZ e28 Ar29 (j := (1 : Int32)) hin29 (g := (mkF m 70 #[.val (.int (3 : Int32)), .val (.int p1), .val (.int p2), .val (.ref b22)] [(.int r28), (.int (1 : Int32)), (.ref b22)])) rfl rfl (hb hby d1_70)
    have V30 : Arv Z h30 b22 k22 .byte (3 : Int32) [(.int (nar .byte r24)), (.int (nar .byte r28)), (.int (0 : Int32))] (.int (0 : Int32)) := Arv.set Ar29 q29 Sz29 Nz29 Hs29 Gs29 (fits_nar_byte _) W30 1 rfl (Nat.le_of_ble_eq_true rfl)
    have Z31 : n0 ≤ h30.size := Nat.le_trans Z27 (Keep.of_wr W30).1
    have K30 : Keep h0 h30 [] := K26.wr W30 (Or.inr sz_b22)
    have N30 := Fr.snoc X30 N28 g_b22
    obtain ⟨_, _, ⟨T32, L32, k32, n32⟩, -, X32, ⟨Lc32, hQ32, l32, y32, z32⟩, st32⟩ := Jvm.LawKit.callS X30 hx (y := (⟨"quorumkeep/store/ReaderMostMessagesLeftPinLaw", "pick", "(III)B"⟩ : MethodName)) hown (mvT hZ (hw _ (List.mem_of_getElem? (i := 72) rfl))) (mvT hZ (hw _ (List.mem_of_getElem? (i := 73) rfl))) (mvT hZ (hw _ (List.mem_of_getElem? (i := 3) rfl))) (mvT hZ (hw _ (List.mem_of_getElem? (i := 74) rfl))) (by decide) (backOf (W := 2) (rmpick l Z a0 hw [] p1 p2 (2 : Int32) h30 n0 Z31 ) hZ (hw _ (List.mem_of_getElem? (i := 74) rfl)) (hw _ (List.mem_of_getElem? (i := 3) rfl)) (by decide) (by decide)) (g := (mkF m 81 #[.val (.int (3 : Int32)), .val (.int p1), .val (.int p2), .val (.ref b22)] [(.int (2 : Int32)), (.int p2), (.int p1), (.int (2 : Int32)), (.ref b22)])) rfl (by rw [hml]; rfl) (argsL := [(.int p1), (.int p2), (.int (2 : Int32))]) (rest := [(.int (2 : Int32)), (.ref b22)]) (lenOf pd_0 rfl) rfl (by show 2 * 0 + _ ≤ _; exact Nat.le_of_eq rfl) (hb hby d1_81) (fun _ _ => ⟨rfl, e30, (by decide : 1 + 0 ≤ _), (by decide : 3 + 0 ≤ _)⟩)
    dsimp only [Pt.U, Pt.locs, Pt.cells, Pt.slots] at X32 l32 y32 z32 st32 hQ32
    subst l32 y32 z32
    obtain ⟨r32, rfl, Nq32, hh32⟩ := hQ32
    have N32 := Fr.app N30 Nq32
    have e32 : T32.heap = h30 := hh32
    obtain ⟨cl33, Ar33, q33, Sz33, Nz33, Hs33, Gs33⟩ := id V30
    have hin33 : ¬ ((2 : Int32) < 0 ∨ cl33.slots.size ≤ ((2 : Int32)).toNatClampNeg) := inb_of Sz33 ⟨by decide, by decide⟩
    obtain ⟨T34, h34, X34, e34, W34, st34⟩ := stB X32 hx hZ e32 Ar33 (j := (2 : Int32)) hin33 (g := (mkF m 84 #[.val (.int (3 : Int32)), .val (.int p1), .val (.int p2), .val (.ref b22)] [(.int r32), (.int (2 : Int32)), (.ref b22)])) rfl rfl (hb hby d1_84)
    have V34 : Arv Z h34 b22 k22 .byte (3 : Int32) [(.int (nar .byte r24)), (.int (nar .byte r28)), (.int (nar .byte r32))] (.int (0 : Int32)) := Arv.set Ar33 q33 Sz33 Nz33 Hs33 Gs33 (fits_nar_byte _) W34 2 rfl (Nat.le_of_ble_eq_true rfl)
    have Z35 : n0 ≤ h34.size := Nat.le_trans Z31 (Keep.of_wr W34).1
    have K34 : Keep h0 h34 [] := K30.wr W34 (Or.inr sz_b22)
    have N34 := Fr.snoc X34 N32 g_b22
    have pre36 : ∀ t, Steps p.tables e below (T34.setTop (mkF m 100 #[.val (.int (3 : Int32)), .val (.int p1), .val (.int p2), .val (.ref b22)] [(.ref b22)])) t → Steps p.tables e below (s₁.setTop (entryFrame m #[(.int (3 : Int32)), (.int p1), (.int p2)] 4)) t := fun t k => by
      refine pre0 t ?_
      show Steps p.tables e below (s₁.setTop (mkF m 0 #[.val (.int (3 : Int32)), .val (.int p1), .val (.int p2), .unset] [])) _
      refine XS.iloadN X0.here hx rfl (hb hby d1_0) rfl ?_
      show Steps p.tables e below (s₁.setTop (mkF m 1 #[.val (.int (3 : Int32)), .val (.int p1), .val (.int p2), .unset] [(.int (3 : Int32))])) _
      refine XS.ifYes X0.here hx rfl (pc0 := 1) (pc' := 8) rfl (hb hby d1_1) rfl ((if0 _ _).trans (feq (by decide : ¬ ((3 : Int32) = (0 : Int32)))).2) (by decide) (by decide) ?_
      show Steps p.tables e below (s₁.setTop (mkF m 8 #[.val (.int (3 : Int32)), .val (.int p1), .val (.int p2), .unset] [])) _
      refine XS.iloadN X0.here hx rfl (hb hby d1_8) rfl ?_
      show Steps p.tables e below (s₁.setTop (mkF m 9 #[.val (.int (3 : Int32)), .val (.int p1), .val (.int p2), .unset] [(.int (3 : Int32))])) _
      refine XS.iconst X0.here hx rfl (hb hby d1_9) ?_
      show Steps p.tables e below (s₁.setTop (mkF m 10 #[.val (.int (3 : Int32)), .val (.int p1), .val (.int p2), .unset] [(.int (1 : Int32)), (.int (3 : Int32))])) _
      refine XS.icmpYes X0.here hx rfl (pc0 := 10) (pc' := 20) rfl (hb hby d1_10) rfl (feq (by decide : ¬ ((3 : Int32) = (1 : Int32)))).2 (by decide) (by decide) ?_
      show Steps p.tables e below (s₁.setTop (mkF m 20 #[.val (.int (3 : Int32)), .val (.int p1), .val (.int p2), .unset] [])) _
      refine XS.iloadN X0.here hx rfl (hb hby d1_20) rfl ?_
      show Steps p.tables e below (s₁.setTop (mkF m 21 #[.val (.int (3 : Int32)), .val (.int p1), .val (.int p2), .unset] [(.int (3 : Int32))])) _
      refine XS.iconst X0.here hx rfl (hb hby d1_21) ?_
      show Steps p.tables e below (s₁.setTop (mkF m 22 #[.val (.int (3 : Int32)), .val (.int p1), .val (.int p2), .unset] [(.int (2 : Int32)), (.int (3 : Int32))])) _
      refine XS.icmpYes X0.here hx rfl (pc0 := 22) (pc' := 32) rfl (hb hby d1_22) rfl (feq (by decide : ¬ ((3 : Int32) = (2 : Int32)))).2 (by decide) (by decide) ?_
      show Steps p.tables e below (s₁.setTop (mkF m 32 #[.val (.int (3 : Int32)), .val (.int p1), .val (.int p2), .unset] [])) _
      refine XS.iloadN X0.here hx rfl (hb hby d1_32) rfl ?_
      show Steps p.tables e below (s₁.setTop (mkF m 33 #[.val (.int (3 : Int32)), .val (.int p1), .val (.int p2), .unset] [(.int (3 : Int32))])) _
      refine XS.iconst X0.here hx rfl (hb hby d1_33) ?_
      show Steps p.tables e below (s₁.setTop (mkF m 34 #[.val (.int (3 : Int32)), .val (.int p1), .val (.int p2), .unset] [(.int (3 : Int32)), (.int (3 : Int32))])) _
      refine XS.icmpNo X0.here hx rfl (hb hby d1_34) rfl (teq (by decide : (3 : Int32) = (3 : Int32))).2 ?_
      show Steps p.tables e below (s₁.setTop (mkF m 37 #[.val (.int (3 : Int32)), .val (.int p1), .val (.int p2), .unset] [])) _
      refine XS.iconst X0.here hx rfl (hb hby d1_37) ?_
      show Steps p.tables e below (s₁.setTop (mkF m 38 #[.val (.int (3 : Int32)), .val (.int p1), .val (.int p2), .unset] [(.int (3 : Int32))])) _
      refine st22 _ ?_
      show Steps p.tables e below (T22.setTop (mkF m 40 #[.val (.int (3 : Int32)), .val (.int p1), .val (.int p2), .unset] [(.ref b22)])) _
      refine XS.astoreN X22.here hx rfl (hb hby d1_40) rfl rfl (l' := #[.val (.int (3 : Int32)), .val (.int p1), .val (.int p2), .val (.ref b22)]) rfl ?_
      show Steps p.tables e below (T22.setTop (mkF m 41 #[.val (.int (3 : Int32)), .val (.int p1), .val (.int p2), .val (.ref b22)] [])) _
      refine XS.goto X22.here hx rfl (pc0 := 41) (pc' := 48) rfl (hb hby d1_41) (by decide) (by decide) ?_
      show Steps p.tables e below (T22.setTop (mkF m 48 #[.val (.int (3 : Int32)), .val (.int p1), .val (.int p2), .val (.ref b22)] [])) _
      refine XS.aloadN X22.here hx rfl (hb hby d1_48) rfl rfl ?_
      show Steps p.tables e below (T22.setTop (mkF m 49 #[.val (.int (3 : Int32)), .val (.int p1), .val (.int p2), .val (.ref b22)] [(.ref b22)])) _
      refine XS.iconst X22.here hx rfl (hb hby d1_49) ?_
      show Steps p.tables e below (T22.setTop (mkF m 50 #[.val (.int (3 : Int32)), .val (.int p1), .val (.int p2), .val (.ref b22)] [(.int (0 : Int32)), (.ref b22)])) _
      refine XS.iloadN X22.here hx rfl (hb hby d1_50) rfl ?_
      show Steps p.tables e below (T22.setTop (mkF m 51 #[.val (.int (3 : Int32)), .val (.int p1), .val (.int p2), .val (.ref b22)] [(.int p1), (.int (0 : Int32)), (.ref b22)])) _
      refine XS.iloadN X22.here hx rfl (hb hby d1_51) rfl ?_
      show Steps p.tables e below (T22.setTop (mkF m 52 #[.val (.int (3 : Int32)), .val (.int p1), .val (.int p2), .val (.ref b22)] [(.int p2), (.int p1), (.int (0 : Int32)), (.ref b22)])) _
      refine XS.iconst X22.here hx rfl (hb hby d1_52) ?_
      show Steps p.tables e below (T22.setTop (mkF m 53 #[.val (.int (3 : Int32)), .val (.int p1), .val (.int p2), .val (.ref b22)] [(.int (0 : Int32)), (.int p2), (.int p1), (.int (0 : Int32)), (.ref b22)])) _
      refine st24 _ ?_
      show Steps p.tables e below (T24.setTop (mkF m 56 #[.val (.int (3 : Int32)), .val (.int p1), .val (.int p2), .val (.ref b22)] [(.int r24), (.int (0 : Int32)), (.ref b22)])) _
      refine st26 _ ?_
      show Steps p.tables e below (T26.setTop (mkF m 57 #[.val (.int (3 : Int32)), .val (.int p1), .val (.int p2), .val (.ref b22)] [])) _
      refine XS.iloadN X26.here hx rfl (hb hby d1_57) rfl ?_
      show Steps p.tables e below (T26.setTop (mkF m 58 #[.val (.int (3 : Int32)), .val (.int p1), .val (.int p2), .val (.ref b22)] [(.int (3 : Int32))])) _
      refine XS.iconst X26.here hx rfl (hb hby d1_58) ?_
      show Steps p.tables e below (T26.setTop (mkF m 59 #[.val (.int (3 : Int32)), .val (.int p1), .val (.int p2), .val (.ref b22)] [(.int (1 : Int32)), (.int (3 : Int32))])) _
      refine XS.icmpNo X26.here hx rfl (hb hby d1_59) rfl (tlt (by decide : (1 : Int32) < (3 : Int32))).2.2.2 ?_
      show Steps p.tables e below (T26.setTop (mkF m 62 #[.val (.int (3 : Int32)), .val (.int p1), .val (.int p2), .val (.ref b22)] [])) _
      refine XS.aloadN X26.here hx rfl (hb hby d1_62) rfl rfl ?_
      show Steps p.tables e below (T26.setTop (mkF m 63 #[.val (.int (3 : Int32)), .val (.int p1), .val (.int p2), .val (.ref b22)] [(.ref b22)])) _
      refine XS.iconst X26.here hx rfl (hb hby d1_63) ?_
      show Steps p.tables e below (T26.setTop (mkF m 64 #[.val (.int (3 : Int32)), .val (.int p1), .val (.int p2), .val (.ref b22)] [(.int (1 : Int32)), (.ref b22)])) _
      refine XS.iloadN X26.here hx rfl (hb hby d1_64) rfl ?_
      show Steps p.tables e below (T26.setTop (mkF m 65 #[.val (.int (3 : Int32)), .val (.int p1), .val (.int p2), .val (.ref b22)] [(.int p1), (.int (1 : Int32)), (.ref b22)])) _
      refine XS.iloadN X26.here hx rfl (hb hby d1_65) rfl ?_
      show Steps p.tables e below (T26.setTop (mkF m 66 #[.val (.int (3 : Int32)), .val (.int p1), .val (.int p2), .val (.ref b22)] [(.int p2), (.int p1), (.int (1 : Int32)), (.ref b22)])) _
      refine XS.iconst X26.here hx rfl (hb hby d1_66) ?_
      show Steps p.tables e below (T26.setTop (mkF m 67 #[.val (.int (3 : Int32)), .val (.int p1), .val (.int p2), .val (.ref b22)] [(.int (1 : Int32)), (.int p2), (.int p1), (.int (1 : Int32)), (.ref b22)])) _
      refine st28 _ ?_
      show Steps p.tables e below (T28.setTop (mkF m 70 #[.val (.int (3 : Int32)), .val (.int p1), .val (.int p2), .val (.ref b22)] [(.int r28), (.int (1 : Int32)), (.ref b22)])) _
      refine st30 _ ?_
      show Steps p.tables e below (T30.setTop (mkF m 71 #[.val (.int (3 : Int32)), .val (.int p1), .val (.int p2), .val (.ref b22)] [])) _
      refine XS.iloadN X30.here hx rfl (hb hby d1_71) rfl ?_
      show Steps p.tables e below (T30.setTop (mkF m 72 #[.val (.int (3 : Int32)), .val (.int p1), .val (.int p2), .val (.ref b22)] [(.int (3 : Int32))])) _
      refine XS.iconst X30.here hx rfl (hb hby d1_72) ?_
      show Steps p.tables e below (T30.setTop (mkF m 73 #[.val (.int (3 : Int32)), .val (.int p1), .val (.int p2), .val (.ref b22)] [(.int (2 : Int32)), (.int (3 : Int32))])) _
      refine XS.icmpNo X30.here hx rfl (hb hby d1_73) rfl (tlt (by decide : (2 : Int32) < (3 : Int32))).2.2.2 ?_
      show Steps p.tables e below (T30.setTop (mkF m 76 #[.val (.int (3 : Int32)), .val (.int p1), .val (.int p2), .val (.ref b22)] [])) _
      refine XS.aloadN X30.here hx rfl (hb hby d1_76) rfl rfl ?_
      show Steps p.tables e below (T30.setTop (mkF m 77 #[.val (.int (3 : Int32)), .val (.int p1), .val (.int p2), .val (.ref b22)] [(.ref b22)])) _
      refine XS.iconst X30.here hx rfl (hb hby d1_77) ?_
      show Steps p.tables e below (T30.setTop (mkF m 78 #[.val (.int (3 : Int32)), .val (.int p1), .val (.int p2), .val (.ref b22)] [(.int (2 : Int32)), (.ref b22)])) _
      refine XS.iloadN X30.here hx rfl (hb hby d1_78) rfl ?_
      show Steps p.tables e below (T30.setTop (mkF m 79 #[.val (.int (3 : Int32)), .val (.int p1), .val (.int p2), .val (.ref b22)] [(.int p1), (.int (2 : Int32)), (.ref b22)])) _
      refine XS.iloadN X30.here hx rfl (hb hby d1_79) rfl ?_
      show Steps p.tables e below (T30.setTop (mkF m 80 #[.val (.int (3 : Int32)), .val (.int p1), .val (.int p2), .val (.ref b22)] [(.int p2), (.int p1), (.int (2 : Int32)), (.ref b22)])) _
      refine XS.iconst X30.here hx rfl (hb hby d1_80) ?_
      show Steps p.tables e below (T30.setTop (mkF m 81 #[.val (.int (3 : Int32)), .val (.int p1), .val (.int p2), .val (.ref b22)] [(.int (2 : Int32)), (.int p2), (.int p1), (.int (2 : Int32)), (.ref b22)])) _
      refine st32 _ ?_
      show Steps p.tables e below (T32.setTop (mkF m 84 #[.val (.int (3 : Int32)), .val (.int p1), .val (.int p2), .val (.ref b22)] [(.int r32), (.int (2 : Int32)), (.ref b22)])) _
      refine st34 _ ?_
      show Steps p.tables e below (T34.setTop (mkF m 85 #[.val (.int (3 : Int32)), .val (.int p1), .val (.int p2), .val (.ref b22)] [])) _
      refine XS.iloadN X34.here hx rfl (hb hby d1_85) rfl ?_
      show Steps p.tables e below (T34.setTop (mkF m 86 #[.val (.int (3 : Int32)), .val (.int p1), .val (.int p2), .val (.ref b22)] [(.int (3 : Int32))])) _
      refine XS.iconst X34.here hx rfl (hb hby d1_86) ?_
      show Steps p.tables e below (T34.setTop (mkF m 87 #[.val (.int (3 : Int32)), .val (.int p1), .val (.int p2), .val (.ref b22)] [(.int (3 : Int32)), (.int (3 : Int32))])) _
      refine XS.icmpYes X34.here hx rfl (pc0 := 87) (pc' := 99) rfl (hb hby d1_87) rfl (flt (by decide : ¬ ((3 : Int32) < (3 : Int32)))).2.2.2 (by decide) (by decide) ?_
      show Steps p.tables e below (T34.setTop (mkF m 99 #[.val (.int (3 : Int32)), .val (.int p1), .val (.int p2), .val (.ref b22)] [])) _
      refine XS.aloadN X34.here hx rfl (hb hby d1_99) rfl rfl ?_
      exact k
    obtain ⟨fs, hrq, hrun, hended, hW, hsame⟩ := X34.leave (v := some (.ref b22)) (fun h => by rw [Bd.returns] at h; cases h)
    refine ⟨_, _, pre36 _ ?_, hrun, hended, _, _, rfl, ?_, ⟨_, rfl⟩, hW, hsame.mono (by decide) (by decide)⟩
    · show Steps p.tables e below (T34.setTop (mkF m 100 #[.val (.int (3 : Int32)), .val (.int p1), .val (.int p2), .val (.ref b22)] [(.ref b22)])) _
      exact retOut X34 hx Bd.returns rfl (Or.inr (Or.inr (Or.inr (Or.inr ⟨rfl, rfl, rfl⟩)))) (hb hby d1_100) hrq
    · show Qmake Z (3 : Int32) p1 p2 h0 n0 _ T34.heap _
      rw [e34]
      exact ⟨_, _, _, rfl, N34, K34, sz_b22, V34⟩
  · obtain ⟨T37, h37, k37, X37, e37, E37, A37, st37⟩ := newP X0 hx hZ (hw _ (List.mem_of_getElem? (i := 5) rfl)) e0 (g := (mkF m 45 #[.val (.int (4 : Int32)), .val (.int p1), .val (.int p2), .unset] [(.int (4 : Int32))])) rfl (hb hby d1_45) rfl (by decide) (cap := 4) (by decide) (by decide) (by decide) (by decide)
    obtain ⟨b37, g37⟩ : ∃ z, z = h0.size := ⟨_, rfl⟩
    rw [← g37] at A37 st37
    have g_b37 : n0 ≤ b37 := Nat.le_trans Z0 (Nat.le_of_eq g37.symm)
    have sz_b37 : h0.size ≤ b37 := Nat.le_trans (Keep.refl h0 []).1 (Nat.le_of_eq g37.symm)
    have Z38 : n0 ≤ h37.size := Nat.le_trans Z0 E37.1
    have K37 : Keep h0 h37 [] := (Keep.refl h0 []).ext E37
    have V37 : Arv Z h37 b37 k37 .byte (4 : Int32) [(.int (0 : Int32)), (.int (0 : Int32)), (.int (0 : Int32)), (.int (0 : Int32))] (.int (0 : Int32)) := (Arv.new A37 (by decide)).pad (pad_rep [] (.int (0 : Int32)) 4)
    obtain ⟨_, _, ⟨T39, L39, k39, n39⟩, -, X39, ⟨Lc39, hQ39, l39, y39, z39⟩, st39⟩ := Jvm.LawKit.callS X37 hx (y := (⟨"quorumkeep/store/ReaderMostMessagesLeftPinLaw", "pick", "(III)B"⟩ : MethodName)) hown (mvT hZ (hw _ (List.mem_of_getElem? (i := 72) rfl))) (mvT hZ (hw _ (List.mem_of_getElem? (i := 73) rfl))) (mvT hZ (hw _ (List.mem_of_getElem? (i := 3) rfl))) (mvT hZ (hw _ (List.mem_of_getElem? (i := 74) rfl))) (by decide) (backOf (W := 2) (rmpick l Z a0 hw [] p1 p2 (0 : Int32) h37 n0 Z38 ) hZ (hw _ (List.mem_of_getElem? (i := 74) rfl)) (hw _ (List.mem_of_getElem? (i := 3) rfl)) (by decide) (by decide)) (g := (mkF m 53 #[.val (.int (4 : Int32)), .val (.int p1), .val (.int p2), .val (.ref b37)] [(.int (0 : Int32)), (.int p2), (.int p1), (.int (0 : Int32)), (.ref b37)])) rfl (by rw [hml]; rfl) (argsL := [(.int p1), (.int p2), (.int (0 : Int32))]) (rest := [(.int (0 : Int32)), (.ref b37)]) (lenOf pd_0 rfl) rfl (by show 2 * 0 + _ ≤ _; exact Nat.le_of_eq rfl) (hb hby d1_53) (fun _ _ => ⟨rfl, e37, (by decide : 1 + 0 ≤ _), (by decide : 4 + 0 ≤ _)⟩)
    dsimp only [Pt.U, Pt.locs, Pt.cells, Pt.slots] at X39 l39 y39 z39 st39 hQ39
    subst l39 y39 z39
    obtain ⟨r39, rfl, Nq39, hh39⟩ := hQ39
    have N39 := Fr.app N0 Nq39
    have e39 : T39.heap = h37 := hh39
    obtain ⟨cl40, Ar40, q40, Sz40, Nz40, Hs40, Gs40⟩ := id V37
    have hin40 : ¬ ((0 : Int32) < 0 ∨ cl40.slots.size ≤ ((0 : Int32)).toNatClampNeg) := inb_of Sz40 ⟨by decide, by decide⟩
    obtain ⟨T41, h41, X41, e41, W41, st41⟩ := stB X39 hx hZ e39 Ar40 (j := (0 : Int32)) hin40 (g := (mkF m 56 #[.val (.int (4 : Int32)), .val (.int p1), .val (.int p2), .val (.ref b37)] [(.int r39), (.int (0 : Int32)), (.ref b37)])) rfl rfl (hb hby d1_56)
    have V41 : Arv Z h41 b37 k37 .byte (4 : Int32) [(.int (nar .byte r39)), (.int (0 : Int32)), (.int (0 : Int32)), (.int (0 : Int32))] (.int (0 : Int32)) := Arv.set Ar40 q40 Sz40 Nz40 Hs40 Gs40 (fits_nar_byte _) W41 0 rfl (Nat.le_of_ble_eq_true rfl)
    have Z42 : n0 ≤ h41.size := Nat.le_trans Z38 (Keep.of_wr W41).1
    have K41 : Keep h0 h41 [] := K37.wr W41 (Or.inr sz_b37)
    have N41 := Fr.snoc X41 N39 g_b37
    obtain ⟨_, _, ⟨T43, L43, k43, n43⟩, -, X43, ⟨Lc43, hQ43, l43, y43, z43⟩, st43⟩ := Jvm.LawKit.callS X41 hx (y := (⟨"quorumkeep/store/ReaderMostMessagesLeftPinLaw", "pick", "(III)B"⟩ : MethodName)) hown (mvT hZ (hw _ (List.mem_of_getElem? (i := 72) rfl))) (mvT hZ (hw _ (List.mem_of_getElem? (i := 73) rfl))) (mvT hZ (hw _ (List.mem_of_getElem? (i := 3) rfl))) (mvT hZ (hw _ (List.mem_of_getElem? (i := 74) rfl))) (by decide) (backOf (W := 2) (rmpick l Z a0 hw [] p1 p2 (1 : Int32) h41 n0 Z42 ) hZ (hw _ (List.mem_of_getElem? (i := 74) rfl)) (hw _ (List.mem_of_getElem? (i := 3) rfl)) (by decide) (by decide)) (g := (mkF m 67 #[.val (.int (4 : Int32)), .val (.int p1), .val (.int p2), .val (.ref b37)] [(.int (1 : Int32)), (.int p2), (.int p1), (.int (1 : Int32)), (.ref b37)])) rfl (by rw [hml]; rfl) (argsL := [(.int p1), (.int p2), (.int (1 : Int32))]) (rest := [(.int (1 : Int32)), (.ref b37)]) (lenOf pd_0 rfl) rfl (by show 2 * 0 + _ ≤ _; exact Nat.le_of_eq rfl) (hb hby d1_67) (fun _ _ => ⟨rfl, e41, (by decide : 1 + 0 ≤ _), (by decide : 4 + 0 ≤ _)⟩)
    dsimp only [Pt.U, Pt.locs, Pt.cells, Pt.slots] at X43 l43 y43 z43 st43 hQ43
    subst l43 y43 z43
    obtain ⟨r43, rfl, Nq43, hh43⟩ := hQ43
    have N43 := Fr.app N41 Nq43
    have e43 : T43.heap = h41 := hh43
    obtain ⟨cl44, Ar44, q44, Sz44, Nz44, Hs44, Gs44⟩ := id V41
    have hin44 : ¬ ((1 : Int32) < 0 ∨ cl44.slots.size ≤ ((1 : Int32)).toNatClampNeg) := inb_of Sz44 ⟨by decide, by decide⟩
    obtain ⟨T45, h45, X45, e45, W45, st45⟩ := stB X43 hx hZ e43 Ar44 (j := (1 : Int32)) hin44 (g := (mkF m 70 #[.val (.int (4 : Int32)), .val (.int p1), .val (.int p2), .val (.ref b37)] [(.int r43), (.int (1 : Int32)), (.ref b37)])) rfl rfl (hb hby d1_70)
    have V45 : Arv Z h45 b37 k37 .byte (4 : Int32) [(.int (nar .byte r39)), (.int (nar .byte r43)), (.int (0 : Int32)), (.int (0 : Int32))] (.int (0 : Int32)) := Arv.set Ar44 q44 Sz44 Nz44 Hs44 Gs44 (fits_nar_byte _) W45 1 rfl (Nat.le_of_ble_eq_true rfl)
    have Z46 : n0 ≤ h45.size := Nat.le_trans Z42 (Keep.of_wr W45).1
    have K45 : Keep h0 h45 [] := K41.wr W45 (Or.inr sz_b37)
    have N45 := Fr.snoc X45 N43 g_b37
    obtain ⟨_, _, ⟨T47, L47, k47, n47⟩, -, X47, ⟨Lc47, hQ47, l47, y47, z47⟩, st47⟩ := Jvm.LawKit.callS X45 hx (y := (⟨"quorumkeep/store/ReaderMostMessagesLeftPinLaw", "pick", "(III)B"⟩ : MethodName)) hown (mvT hZ (hw _ (List.mem_of_getElem? (i := 72) rfl))) (mvT hZ (hw _ (List.mem_of_getElem? (i := 73) rfl))) (mvT hZ (hw _ (List.mem_of_getElem? (i := 3) rfl))) (mvT hZ (hw _ (List.mem_of_getElem? (i := 74) rfl))) (by decide) (backOf (W := 2) (rmpick l Z a0 hw [] p1 p2 (2 : Int32) h45 n0 Z46 ) hZ (hw _ (List.mem_of_getElem? (i := 74) rfl)) (hw _ (List.mem_of_getElem? (i := 3) rfl)) (by decide) (by decide)) (g := (mkF m 81 #[.val (.int (4 : Int32)), .val (.int p1), .val (.int p2), .val (.ref b37)] [(.int (2 : Int32)), (.int p2), (.int p1), (.int (2 : Int32)), (.ref b37)])) rfl (by rw [hml]; rfl) (argsL := [(.int p1), (.int p2), (.int (2 : Int32))]) (rest := [(.int (2 : Int32)), (.ref b37)]) (lenOf pd_0 rfl) rfl (by show 2 * 0 + _ ≤ _; exact Nat.le_of_eq rfl) (hb hby d1_81) (fun _ _ => ⟨rfl, e45, (by decide : 1 + 0 ≤ _), (by decide : 4 + 0 ≤ _)⟩)
    dsimp only [Pt.U, Pt.locs, Pt.cells, Pt.slots] at X47 l47 y47 z47 st47 hQ47
    subst l47 y47 z47
    obtain ⟨r47, rfl, Nq47, hh47⟩ := hQ47
    have N47 := Fr.app N45 Nq47
    have e47 : T47.heap = h45 := hh47
    obtain ⟨cl48, Ar48, q48, Sz48, Nz48, Hs48, Gs48⟩ := id V45
    have hin48 : ¬ ((2 : Int32) < 0 ∨ cl48.slots.size ≤ ((2 : Int32)).toNatClampNeg) := inb_of Sz48 ⟨by decide, by decide⟩
    obtain ⟨T49, h49, X49, e49, W49, st49⟩ := stB X47 hx hZ e47 Ar48 (j := (2 : Int32)) hin48 (g := (mkF m 84 #[.val (.int (4 : Int32)), .val (.int p1), .val (.int p2), .val (.ref b37)] [(.int r47), (.int (2 : Int32)), (.ref b37)])) rfl rfl (hb hby d1_84)
    have V49 : Arv Z h49 b37 k37 .byte (4 : Int32) [(.int (nar .byte r39)), (.int (nar .byte r43)), (.int (nar .byte r47)), (.int (0 : Int32))] (.int (0 : Int32)) := Arv.set Ar48 q48 Sz48 Nz48 Hs48 Gs48 (fits_nar_byte _) W49 2 rfl (Nat.le_of_ble_eq_true rfl)
    have Z50 : n0 ≤ h49.size := Nat.le_trans Z46 (Keep.of_wr W49).1
    have K49 : Keep h0 h49 [] := K45.wr W49 (Or.inr sz_b37)
    have N49 := Fr.snoc X49 N47 g_b37
    obtain ⟨_, _, ⟨T51, L51, k51, n51⟩, -, X51, ⟨Lc51, hQ51, l51, y51, z51⟩, st51⟩ := Jvm.LawKit.callS X49 hx (y := (⟨"quorumkeep/store/ReaderMostMessagesLeftPinLaw", "pick", "(III)B"⟩ : MethodName)) hown (mvT hZ (hw _ (List.mem_of_getElem? (i := 72) rfl))) (mvT hZ (hw _ (List.mem_of_getElem? (i := 73) rfl))) (mvT hZ (hw _ (List.mem_of_getElem? (i := 3) rfl))) (mvT hZ (hw _ (List.mem_of_getElem? (i := 74) rfl))) (by decide) (backOf (W := 2) (rmpick l Z a0 hw [] p1 p2 (3 : Int32) h49 n0 Z50 ) hZ (hw _ (List.mem_of_getElem? (i := 74) rfl)) (hw _ (List.mem_of_getElem? (i := 3) rfl)) (by decide) (by decide)) (g := (mkF m 95 #[.val (.int (4 : Int32)), .val (.int p1), .val (.int p2), .val (.ref b37)] [(.int (3 : Int32)), (.int p2), (.int p1), (.int (3 : Int32)), (.ref b37)])) rfl (by rw [hml]; rfl) (argsL := [(.int p1), (.int p2), (.int (3 : Int32))]) (rest := [(.int (3 : Int32)), (.ref b37)]) (lenOf pd_0 rfl) rfl (by show 2 * 0 + _ ≤ _; exact Nat.le_of_eq rfl) (hb hby d1_95) (fun _ _ => ⟨rfl, e49, (by decide : 1 + 0 ≤ _), (by decide : 4 + 0 ≤ _)⟩)
    dsimp only [Pt.U, Pt.locs, Pt.cells, Pt.slots] at X51 l51 y51 z51 st51 hQ51
    subst l51 y51 z51
    obtain ⟨r51, rfl, Nq51, hh51⟩ := hQ51
    have N51 := Fr.app N49 Nq51
    have e51 : T51.heap = h49 := hh51
    obtain ⟨cl52, Ar52, q52, Sz52, Nz52, Hs52, Gs52⟩ := id V49
    have hin52 : ¬ ((3 : Int32) < 0 ∨ cl52.slots.size ≤ ((3 : Int32)).toNatClampNeg) := inb_of Sz52 ⟨by decide, by decide⟩
    obtain ⟨T53, h53, X53, e53, W53, st53⟩ := stB X51 hx hZ e51 Ar52 (j := (3 : Int32)) hin52 (g := (mkF m 98 #[.val (.int (4 : Int32)), .val (.int p1), .val (.int p2), .val (.ref b37)] [(.int r51), (.int (3 : Int32)), (.ref b37)])) rfl rfl (hb hby d1_98)
    have V53 : Arv Z h53 b37 k37 .byte (4 : Int32) [(.int (nar .byte r39)), (.int (nar .byte r43)), (.int (nar .byte r47)), (.int (nar .byte r51))] (.int (0 : Int32)) := Arv.set Ar52 q52 Sz52 Nz52 Hs52 Gs52 (fits_nar_byte _) W53 3 rfl (Nat.le_of_ble_eq_true rfl)
    have Z54 : n0 ≤ h53.size := Nat.le_trans Z50 (Keep.of_wr W53).1
    have K53 : Keep h0 h53 [] := K49.wr W53 (Or.inr sz_b37)
    have N53 := Fr.snoc X53 N51 g_b37
    have pre55 : ∀ t, Steps p.tables e below (T53.setTop (mkF m 100 #[.val (.int (4 : Int32)), .val (.int p1), .val (.int p2), .val (.ref b37)] [(.ref b37)])) t → Steps p.tables e below (s₁.setTop (entryFrame m #[(.int (4 : Int32)), (.int p1), (.int p2)] 4)) t := fun t k => by
      refine pre0 t ?_
      show Steps p.tables e below (s₁.setTop (mkF m 0 #[.val (.int (4 : Int32)), .val (.int p1), .val (.int p2), .unset] [])) _
      refine XS.iloadN X0.here hx rfl (hb hby d1_0) rfl ?_
      show Steps p.tables e below (s₁.setTop (mkF m 1 #[.val (.int (4 : Int32)), .val (.int p1), .val (.int p2), .unset] [(.int (4 : Int32))])) _
      refine XS.ifYes X0.here hx rfl (pc0 := 1) (pc' := 8) rfl (hb hby d1_1) rfl ((if0 _ _).trans (feq (by decide : ¬ ((4 : Int32) = (0 : Int32)))).2) (by decide) (by decide) ?_
      show Steps p.tables e below (s₁.setTop (mkF m 8 #[.val (.int (4 : Int32)), .val (.int p1), .val (.int p2), .unset] [])) _
      refine XS.iloadN X0.here hx rfl (hb hby d1_8) rfl ?_
      show Steps p.tables e below (s₁.setTop (mkF m 9 #[.val (.int (4 : Int32)), .val (.int p1), .val (.int p2), .unset] [(.int (4 : Int32))])) _
      refine XS.iconst X0.here hx rfl (hb hby d1_9) ?_
      show Steps p.tables e below (s₁.setTop (mkF m 10 #[.val (.int (4 : Int32)), .val (.int p1), .val (.int p2), .unset] [(.int (1 : Int32)), (.int (4 : Int32))])) _
      refine XS.icmpYes X0.here hx rfl (pc0 := 10) (pc' := 20) rfl (hb hby d1_10) rfl (feq (by decide : ¬ ((4 : Int32) = (1 : Int32)))).2 (by decide) (by decide) ?_
      show Steps p.tables e below (s₁.setTop (mkF m 20 #[.val (.int (4 : Int32)), .val (.int p1), .val (.int p2), .unset] [])) _
      refine XS.iloadN X0.here hx rfl (hb hby d1_20) rfl ?_
      show Steps p.tables e below (s₁.setTop (mkF m 21 #[.val (.int (4 : Int32)), .val (.int p1), .val (.int p2), .unset] [(.int (4 : Int32))])) _
      refine XS.iconst X0.here hx rfl (hb hby d1_21) ?_
      show Steps p.tables e below (s₁.setTop (mkF m 22 #[.val (.int (4 : Int32)), .val (.int p1), .val (.int p2), .unset] [(.int (2 : Int32)), (.int (4 : Int32))])) _
      refine XS.icmpYes X0.here hx rfl (pc0 := 22) (pc' := 32) rfl (hb hby d1_22) rfl (feq (by decide : ¬ ((4 : Int32) = (2 : Int32)))).2 (by decide) (by decide) ?_
      show Steps p.tables e below (s₁.setTop (mkF m 32 #[.val (.int (4 : Int32)), .val (.int p1), .val (.int p2), .unset] [])) _
      refine XS.iloadN X0.here hx rfl (hb hby d1_32) rfl ?_
      show Steps p.tables e below (s₁.setTop (mkF m 33 #[.val (.int (4 : Int32)), .val (.int p1), .val (.int p2), .unset] [(.int (4 : Int32))])) _
      refine XS.iconst X0.here hx rfl (hb hby d1_33) ?_
      show Steps p.tables e below (s₁.setTop (mkF m 34 #[.val (.int (4 : Int32)), .val (.int p1), .val (.int p2), .unset] [(.int (3 : Int32)), (.int (4 : Int32))])) _
      refine XS.icmpYes X0.here hx rfl (pc0 := 34) (pc' := 44) rfl (hb hby d1_34) rfl (feq (by decide : ¬ ((4 : Int32) = (3 : Int32)))).2 (by decide) (by decide) ?_
      show Steps p.tables e below (s₁.setTop (mkF m 44 #[.val (.int (4 : Int32)), .val (.int p1), .val (.int p2), .unset] [])) _
      refine XS.iconst X0.here hx rfl (hb hby d1_44) ?_
      show Steps p.tables e below (s₁.setTop (mkF m 45 #[.val (.int (4 : Int32)), .val (.int p1), .val (.int p2), .unset] [(.int (4 : Int32))])) _
      refine st37 _ ?_
      show Steps p.tables e below (T37.setTop (mkF m 47 #[.val (.int (4 : Int32)), .val (.int p1), .val (.int p2), .unset] [(.ref b37)])) _
      refine XS.astoreN X37.here hx rfl (hb hby d1_47) rfl rfl (l' := #[.val (.int (4 : Int32)), .val (.int p1), .val (.int p2), .val (.ref b37)]) rfl ?_
      show Steps p.tables e below (T37.setTop (mkF m 48 #[.val (.int (4 : Int32)), .val (.int p1), .val (.int p2), .val (.ref b37)] [])) _
      refine XS.aloadN X37.here hx rfl (hb hby d1_48) rfl rfl ?_
      show Steps p.tables e below (T37.setTop (mkF m 49 #[.val (.int (4 : Int32)), .val (.int p1), .val (.int p2), .val (.ref b37)] [(.ref b37)])) _
      refine XS.iconst X37.here hx rfl (hb hby d1_49) ?_
      show Steps p.tables e below (T37.setTop (mkF m 50 #[.val (.int (4 : Int32)), .val (.int p1), .val (.int p2), .val (.ref b37)] [(.int (0 : Int32)), (.ref b37)])) _
      refine XS.iloadN X37.here hx rfl (hb hby d1_50) rfl ?_
      show Steps p.tables e below (T37.setTop (mkF m 51 #[.val (.int (4 : Int32)), .val (.int p1), .val (.int p2), .val (.ref b37)] [(.int p1), (.int (0 : Int32)), (.ref b37)])) _
      refine XS.iloadN X37.here hx rfl (hb hby d1_51) rfl ?_
      show Steps p.tables e below (T37.setTop (mkF m 52 #[.val (.int (4 : Int32)), .val (.int p1), .val (.int p2), .val (.ref b37)] [(.int p2), (.int p1), (.int (0 : Int32)), (.ref b37)])) _
      refine XS.iconst X37.here hx rfl (hb hby d1_52) ?_
      show Steps p.tables e below (T37.setTop (mkF m 53 #[.val (.int (4 : Int32)), .val (.int p1), .val (.int p2), .val (.ref b37)] [(.int (0 : Int32)), (.int p2), (.int p1), (.int (0 : Int32)), (.ref b37)])) _
      refine st39 _ ?_
      show Steps p.tables e below (T39.setTop (mkF m 56 #[.val (.int (4 : Int32)), .val (.int p1), .val (.int p2), .val (.ref b37)] [(.int r39), (.int (0 : Int32)), (.ref b37)])) _
      refine st41 _ ?_
      show Steps p.tables e below (T41.setTop (mkF m 57 #[.val (.int (4 : Int32)), .val (.int p1), .val (.int p2), .val (.ref b37)] [])) _
      refine XS.iloadN X41.here hx rfl (hb hby d1_57) rfl ?_
      show Steps p.tables e below (T41.setTop (mkF m 58 #[.val (.int (4 : Int32)), .val (.int p1), .val (.int p2), .val (.ref b37)] [(.int (4 : Int32))])) _
      refine XS.iconst X41.here hx rfl (hb hby d1_58) ?_
      show Steps p.tables e below (T41.setTop (mkF m 59 #[.val (.int (4 : Int32)), .val (.int p1), .val (.int p2), .val (.ref b37)] [(.int (1 : Int32)), (.int (4 : Int32))])) _
      refine XS.icmpNo X41.here hx rfl (hb hby d1_59) rfl (tlt (by decide : (1 : Int32) < (4 : Int32))).2.2.2 ?_
      show Steps p.tables e below (T41.setTop (mkF m 62 #[.val (.int (4 : Int32)), .val (.int p1), .val (.int p2), .val (.ref b37)] [])) _
      refine XS.aloadN X41.here hx rfl (hb hby d1_62) rfl rfl ?_
      show Steps p.tables e below (T41.setTop (mkF m 63 #[.val (.int (4 : Int32)), .val (.int p1), .val (.int p2), .val (.ref b37)] [(.ref b37)])) _
      refine XS.iconst X41.here hx rfl (hb hby d1_63) ?_
      show Steps p.tables e below (T41.setTop (mkF m 64 #[.val (.int (4 : Int32)), .val (.int p1), .val (.int p2), .val (.ref b37)] [(.int (1 : Int32)), (.ref b37)])) _
      refine XS.iloadN X41.here hx rfl (hb hby d1_64) rfl ?_
      show Steps p.tables e below (T41.setTop (mkF m 65 #[.val (.int (4 : Int32)), .val (.int p1), .val (.int p2), .val (.ref b37)] [(.int p1), (.int (1 : Int32)), (.ref b37)])) _
      refine XS.iloadN X41.here hx rfl (hb hby d1_65) rfl ?_
      show Steps p.tables e below (T41.setTop (mkF m 66 #[.val (.int (4 : Int32)), .val (.int p1), .val (.int p2), .val (.ref b37)] [(.int p2), (.int p1), (.int (1 : Int32)), (.ref b37)])) _
      refine XS.iconst X41.here hx rfl (hb hby d1_66) ?_
      show Steps p.tables e below (T41.setTop (mkF m 67 #[.val (.int (4 : Int32)), .val (.int p1), .val (.int p2), .val (.ref b37)] [(.int (1 : Int32)), (.int p2), (.int p1), (.int (1 : Int32)), (.ref b37)])) _
      refine st43 _ ?_
      show Steps p.tables e below (T43.setTop (mkF m 70 #[.val (.int (4 : Int32)), .val (.int p1), .val (.int p2), .val (.ref b37)] [(.int r43), (.int (1 : Int32)), (.ref b37)])) _
      refine st45 _ ?_
      show Steps p.tables e below (T45.setTop (mkF m 71 #[.val (.int (4 : Int32)), .val (.int p1), .val (.int p2), .val (.ref b37)] [])) _
      refine XS.iloadN X45.here hx rfl (hb hby d1_71) rfl ?_
      show Steps p.tables e below (T45.setTop (mkF m 72 #[.val (.int (4 : Int32)), .val (.int p1), .val (.int p2), .val (.ref b37)] [(.int (4 : Int32))])) _
      refine XS.iconst X45.here hx rfl (hb hby d1_72) ?_
      show Steps p.tables e below (T45.setTop (mkF m 73 #[.val (.int (4 : Int32)), .val (.int p1), .val (.int p2), .val (.ref b37)] [(.int (2 : Int32)), (.int (4 : Int32))])) _
      refine XS.icmpNo X45.here hx rfl (hb hby d1_73) rfl (tlt (by decide : (2 : Int32) < (4 : Int32))).2.2.2 ?_
      show Steps p.tables e below (T45.setTop (mkF m 76 #[.val (.int (4 : Int32)), .val (.int p1), .val (.int p2), .val (.ref b37)] [])) _
      refine XS.aloadN X45.here hx rfl (hb hby d1_76) rfl rfl ?_
      show Steps p.tables e below (T45.setTop (mkF m 77 #[.val (.int (4 : Int32)), .val (.int p1), .val (.int p2), .val (.ref b37)] [(.ref b37)])) _
      refine XS.iconst X45.here hx rfl (hb hby d1_77) ?_
      show Steps p.tables e below (T45.setTop (mkF m 78 #[.val (.int (4 : Int32)), .val (.int p1), .val (.int p2), .val (.ref b37)] [(.int (2 : Int32)), (.ref b37)])) _
      refine XS.iloadN X45.here hx rfl (hb hby d1_78) rfl ?_
      show Steps p.tables e below (T45.setTop (mkF m 79 #[.val (.int (4 : Int32)), .val (.int p1), .val (.int p2), .val (.ref b37)] [(.int p1), (.int (2 : Int32)), (.ref b37)])) _
      refine XS.iloadN X45.here hx rfl (hb hby d1_79) rfl ?_
      show Steps p.tables e below (T45.setTop (mkF m 80 #[.val (.int (4 : Int32)), .val (.int p1), .val (.int p2), .val (.ref b37)] [(.int p2), (.int p1), (.int (2 : Int32)), (.ref b37)])) _
      refine XS.iconst X45.here hx rfl (hb hby d1_80) ?_
      show Steps p.tables e below (T45.setTop (mkF m 81 #[.val (.int (4 : Int32)), .val (.int p1), .val (.int p2), .val (.ref b37)] [(.int (2 : Int32)), (.int p2), (.int p1), (.int (2 : Int32)), (.ref b37)])) _
      refine st47 _ ?_
      show Steps p.tables e below (T47.setTop (mkF m 84 #[.val (.int (4 : Int32)), .val (.int p1), .val (.int p2), .val (.ref b37)] [(.int r47), (.int (2 : Int32)), (.ref b37)])) _
      refine st49 _ ?_
      show Steps p.tables e below (T49.setTop (mkF m 85 #[.val (.int (4 : Int32)), .val (.int p1), .val (.int p2), .val (.ref b37)] [])) _
      refine XS.iloadN X49.here hx rfl (hb hby d1_85) rfl ?_
      show Steps p.tables e below (T49.setTop (mkF m 86 #[.val (.int (4 : Int32)), .val (.int p1), .val (.int p2), .val (.ref b37)] [(.int (4 : Int32))])) _
      refine XS.iconst X49.here hx rfl (hb hby d1_86) ?_
      show Steps p.tables e below (T49.setTop (mkF m 87 #[.val (.int (4 : Int32)), .val (.int p1), .val (.int p2), .val (.ref b37)] [(.int (3 : Int32)), (.int (4 : Int32))])) _
      refine XS.icmpNo X49.here hx rfl (hb hby d1_87) rfl (tlt (by decide : (3 : Int32) < (4 : Int32))).2.2.2 ?_
      show Steps p.tables e below (T49.setTop (mkF m 90 #[.val (.int (4 : Int32)), .val (.int p1), .val (.int p2), .val (.ref b37)] [])) _
      refine XS.aloadN X49.here hx rfl (hb hby d1_90) rfl rfl ?_
      show Steps p.tables e below (T49.setTop (mkF m 91 #[.val (.int (4 : Int32)), .val (.int p1), .val (.int p2), .val (.ref b37)] [(.ref b37)])) _
      refine XS.iconst X49.here hx rfl (hb hby d1_91) ?_
      show Steps p.tables e below (T49.setTop (mkF m 92 #[.val (.int (4 : Int32)), .val (.int p1), .val (.int p2), .val (.ref b37)] [(.int (3 : Int32)), (.ref b37)])) _
      refine XS.iloadN X49.here hx rfl (hb hby d1_92) rfl ?_
      show Steps p.tables e below (T49.setTop (mkF m 93 #[.val (.int (4 : Int32)), .val (.int p1), .val (.int p2), .val (.ref b37)] [(.int p1), (.int (3 : Int32)), (.ref b37)])) _
      refine XS.iloadN X49.here hx rfl (hb hby d1_93) rfl ?_
      show Steps p.tables e below (T49.setTop (mkF m 94 #[.val (.int (4 : Int32)), .val (.int p1), .val (.int p2), .val (.ref b37)] [(.int p2), (.int p1), (.int (3 : Int32)), (.ref b37)])) _
      refine XS.iconst X49.here hx rfl (hb hby d1_94) ?_
      show Steps p.tables e below (T49.setTop (mkF m 95 #[.val (.int (4 : Int32)), .val (.int p1), .val (.int p2), .val (.ref b37)] [(.int (3 : Int32)), (.int p2), (.int p1), (.int (3 : Int32)), (.ref b37)])) _
      refine st51 _ ?_
      show Steps p.tables e below (T51.setTop (mkF m 98 #[.val (.int (4 : Int32)), .val (.int p1), .val (.int p2), .val (.ref b37)] [(.int r51), (.int (3 : Int32)), (.ref b37)])) _
      refine st53 _ ?_
      show Steps p.tables e below (T53.setTop (mkF m 99 #[.val (.int (4 : Int32)), .val (.int p1), .val (.int p2), .val (.ref b37)] [])) _
      refine XS.aloadN X53.here hx rfl (hb hby d1_99) rfl rfl ?_
      exact k
    obtain ⟨fs, hrq, hrun, hended, hW, hsame⟩ := X53.leave (v := some (.ref b37)) (fun h => by rw [Bd.returns] at h; cases h)
    refine ⟨_, _, pre55 _ ?_, hrun, hended, _, _, rfl, ?_, ⟨_, rfl⟩, hW, hsame.mono (by decide) (by decide)⟩
    · show Steps p.tables e below (T53.setTop (mkF m 100 #[.val (.int (4 : Int32)), .val (.int p1), .val (.int p2), .val (.ref b37)] [(.ref b37)])) _
      exact retOut X53 hx Bd.returns rfl (Or.inr (Or.inr (Or.inr (Or.inr ⟨rfl, rfl, rfl⟩)))) (hb hby d1_100) hrq
    · show Qmake Z (4 : Int32) p1 p2 h0 n0 _ T53.heap _
      rw [e53]
      exact ⟨_, _, _, rfl, N53, K53, sz_b37, V53⟩
theorem d6_0 : decode prog_163_method_7_code 0 = .ok (.aload_n 0, 1) := by decide +kernel
theorem d6_1 : decode prog_163_method_7_code 1 = .ok (.getfield 116, 3) := by decide +kernel
theorem d6_4 : decode prog_163_method_7_code 4 = .ok (.ifCond .le 26, 3) := by decide +kernel
theorem d6_30 : decode prog_163_method_7_code 30 = .ok (.return_, 1) := by decide +kernel
theorem ef_rmrel (m : MethodId) (x0 : Addr) : entryFrame m #[(.ref x0)] 1 = mkF m 0 #[.val (.ref x0)] [] := by first | (simp [entryFrame, mkF, argsToLocals, Value.category]; done) | rfl
theorem pn_1 : plainName "quorumkeep/store/Messages$Reader" = true := by first | (simp [plainName, overriddenIn]; done) | decide +kernel
def Qrel (Z : State) (ob : Addr) (h0 : Heap) (n0 : Nat) (v : Option Value) (h : Heap) (L : List Loc) : Prop := v = none ∧ Fr n0 L ∧ h = h0
set_option maxRecDepth 65536 in
set_option maxHeartbeats 40000000 in
theorem rmrel (l : Launch) (Z : State) (a0 : Array Value) (hw : ∀ d ∈ tables_1, d.before a0 Z = true) (ws : List Jvm.Cond) (ob : Addr) (h0 : Heap) (n0 : Nat) (Z0 : n0 ≤ h0.size) (F_held : Fld Z h0 ob "quorumkeep/store/Messages$Reader" "held" "I" (.int (0 : Int32))) :
    MetFree l (⟨"quorumkeep/store/Messages$Reader", "release", "()V"⟩ : MethodName) (head1 (Jvm.Cond.code (⟨"quorumkeep/store/Messages$Reader", "release", "()V"⟩ : MethodName) prog_163_method_7_code 1 none :: ws) ({ frames := 0, cells := 0, slots := 0, locals := 0 } : Room)) (fun a U => a = #[(.ref ob)] ∧ Z.Warmed39 U.vm ∧ U.heap = h0) (fun _ _ _ _ _ => True) (fun _ U o U' => ∃ v L, o = .returned v ∧ Qrel Z ob h0 n0 v U'.heap L ∧ FrameEnd U o U' L ({ frames := 0, cells := 0, slots := 0, locals := 0 } : Room).cells ({ frames := 0, cells := 0, slots := 0, locals := 0 } : Room).slots) := by
  refine MetFree.of_bodySF (plainFor_of_name pn_1) hisR ?_
  intro p e s0 m args below meth c s₁ Bd hml0 hP hK
  obtain ⟨rfl, hZ, hh⟩ := hP
  have hx := Bd.exec
  have hby := Bd.bytes
  have hml : c.maxLocals = 1 := hml0
  have hown : s0.vm.findClass "quorumkeep/store/Messages$Reader" = some m.cls := findClass_of_methodNamed Bd.named
  have hnm := (name_of_methodNamed Bd.named Bd.method).1
  have X0 : Stand p l e ({ frames := 0, cells := 0, slots := 0, locals := 0 } : Room) s0 m #[(.ref ob)] below meth c s₁ [] 0 0 := Stand.of_body Bd
  have e0 : s₁.heap = h0 := by rw [← hh, Bd.state]; rfl
  have N0 := Fr.nil n0
  have pre0 : ∀ t, Steps p.tables e below (s₁.setTop (mkF m 0 #[.val (.ref ob)] [])) t → Steps p.tables e below (s₁.setTop (entryFrame m #[(.ref ob)] 1)) t := fun t k => castTop (ef_rmrel m ob) k
  obtain ⟨T1, X1, e1, st1⟩ := getF X0 hx hZ hown (host := "") (Or.inl (hw _ (List.mem_of_getElem? (i := 48) rfl))) Via.refl e0 F_held (g := (mkF m 1 #[.val (.ref ob)] [(.ref ob)])) rfl rfl (hb hby d6_1)
  have pre2 : ∀ t, Steps p.tables e below (T1.setTop (mkF m 30 #[.val (.ref ob)] [])) t → Steps p.tables e below (s₁.setTop (entryFrame m #[(.ref ob)] 1)) t := fun t k => by
    refine pre0 t ?_
    show Steps p.tables e below (s₁.setTop (mkF m 0 #[.val (.ref ob)] [])) _
    refine XS.aloadN X0.here hx rfl (hb hby d6_0) rfl rfl ?_
    show Steps p.tables e below (s₁.setTop (mkF m 1 #[.val (.ref ob)] [(.ref ob)])) _
    refine st1 _ ?_
    show Steps p.tables e below (T1.setTop (mkF m 4 #[.val (.ref ob)] [(.int (0 : Int32))])) _
    refine XS.ifYes X1.here hx rfl (pc0 := 4) (pc' := 30) rfl (hb hby d6_4) rfl ((if0 _ _).trans (flt (by decide : ¬ ((0 : Int32) < (0 : Int32)))).2.2.2) (by decide) (by decide) ?_
    exact k
  obtain ⟨fs, hrq, hrun, hended, hW, hsame⟩ := X1.leave (v := none) (fun _ => rfl)
  refine ⟨_, _, pre2 _ ?_, hrun, hended, _, _, rfl, ?_, ⟨_, rfl⟩, hW, hsame.mono (by decide) (by decide)⟩
  · show Steps p.tables e below (T1.setTop (mkF m 30 #[.val (.ref ob)] [])) _
    exact X1.returnOut hx Bd.returns (hb hby d6_30) hrq
  · show Qrel Z ob h0 n0 _ T1.heap _
    rw [e1]
    exact ⟨rfl, N0, rfl⟩
theorem d4_0 : decode prog_163_method_6_code 0 = .ok (.aload_n 0, 1) := by decide +kernel
theorem d4_1 : decode prog_163_method_6_code 1 = .ok (.getfield 27, 3) := by decide +kernel
theorem d4_4 : decode prog_163_method_6_code 4 = .ok (.lconst 0, 1) := by decide +kernel
theorem d4_5 : decode prog_163_method_6_code 5 = .ok (.lcmp, 1) := by decide +kernel
theorem d4_6 : decode prog_163_method_6_code 6 = .ok (.ifCond .ge 9, 3) := by decide +kernel
theorem d4_15 : decode prog_163_method_6_code 15 = .ok (.aload_n 0, 1) := by decide +kernel
theorem d4_16 : decode prog_163_method_6_code 16 = .ok (.getfield 49, 3) := by decide +kernel
theorem d4_19 : decode prog_163_method_6_code 19 = .ok (.aload_n 0, 1) := by decide +kernel
theorem d4_20 : decode prog_163_method_6_code 20 = .ok (.getfield 69, 3) := by decide +kernel
theorem d4_23 : decode prog_163_method_6_code 23 = .ok (.isub, 1) := by decide +kernel
theorem d4_24 : decode prog_163_method_6_code 24 = .ok (.i2l, 1) := by decide +kernel
theorem d4_25 : decode prog_163_method_6_code 25 = .ok (.aload_n 0, 1) := by decide +kernel
theorem d4_26 : decode prog_163_method_6_code 26 = .ok (.getfield 27, 3) := by decide +kernel
theorem d4_29 : decode prog_163_method_6_code 29 = .ok (.ladd, 1) := by decide +kernel
theorem d4_30 : decode prog_163_method_6_code 30 = .ok (.aload_n 0, 1) := by decide +kernel
theorem d4_31 : decode prog_163_method_6_code 31 = .ok (.getfield 53, 3) := by decide +kernel
theorem d4_34 : decode prog_163_method_6_code 34 = .ok (.lsub, 1) := by decide +kernel
theorem d4_35 : decode prog_163_method_6_code 35 = .ok (.lreturn, 1) := by decide +kernel
theorem ef_rmmm (m : MethodId) (x0 : Addr) : entryFrame m #[(.ref x0)] 1 = mkF m 0 #[.val (.ref x0)] [] := by first | (simp [entryFrame, mkF, argsToLocals, Value.category]; done) | rfl
def Qmm (Z : State) (ob : Addr) (z s : Int32) (h0 : Heap) (n0 : Nat) (v : Option Value) (h : Heap) (L : List Loc) : Prop := v = some (.long ((z - s).toInt64)) ∧ Fr n0 L ∧ h = h0
set_option maxRecDepth 65536 in
set_option maxHeartbeats 40000000 in
theorem rmmm (l : Launch) (Z : State) (a0 : Array Value) (hw : ∀ d ∈ tables_1, d.before a0 Z = true) (ws : List Jvm.Cond) (ob : Addr) (z s : Int32) (h0 : Heap) (n0 : Nat) (Z0 : n0 ≤ h0.size) (F_length : Fld Z h0 ob "quorumkeep/store/Messages$Reader" "length" "J" (.long (z.toInt64))) (F_end : Fld Z h0 ob "quorumkeep/store/Messages$Reader" "end" "I" (.int z)) (F_start : Fld Z h0 ob "quorumkeep/store/Messages$Reader" "start" "I" (.int s)) (F_read : Fld Z h0 ob "quorumkeep/store/Messages$Reader" "read" "J" (.long (z.toInt64))) (hz : ¬ (z < 0)) :
    MetFree l (⟨"quorumkeep/store/Messages$Reader", "mostMessagesLeft", "()J"⟩ : MethodName) (head1 (Jvm.Cond.code (⟨"quorumkeep/store/Messages$Reader", "mostMessagesLeft", "()J"⟩ : MethodName) prog_163_method_6_code 1 (some .long) :: ws) ({ frames := 0, cells := 0, slots := 0, locals := 0 } : Room)) (fun a U => a = #[(.ref ob)] ∧ Z.Warmed39 U.vm ∧ U.heap = h0) (fun _ _ _ _ _ => True) (fun _ U o U' => ∃ v L, o = .returned v ∧ Qmm Z ob z s h0 n0 v U'.heap L ∧ FrameEnd U o U' L ({ frames := 0, cells := 0, slots := 0, locals := 0 } : Room).cells ({ frames := 0, cells := 0, slots := 0, locals := 0 } : Room).slots) := by
  refine MetFree.of_bodySF (plainFor_of_name pn_1) hisR ?_
  intro p e s0 m args below meth c s₁ Bd hml0 hP hK
  obtain ⟨rfl, hZ, hh⟩ := hP
  have hx := Bd.exec
  have hby := Bd.bytes
  have hml : c.maxLocals = 1 := hml0
  have hown : s0.vm.findClass "quorumkeep/store/Messages$Reader" = some m.cls := findClass_of_methodNamed Bd.named
  have hnm := (name_of_methodNamed Bd.named Bd.method).1
  have X0 : Stand p l e ({ frames := 0, cells := 0, slots := 0, locals := 0 } : Room) s0 m #[(.ref ob)] below meth c s₁ [] 0 0 := Stand.of_body Bd
  have e0 : s₁.heap = h0 := by rw [← hh, Bd.state]; rfl
  have N0 := Fr.nil n0
  have pre0 : ∀ t, Steps p.tables e below (s₁.setTop (mkF m 0 #[.val (.ref ob)] [])) t → Steps p.tables e below (s₁.setTop (entryFrame m #[(.ref ob)] 1)) t := fun t k => castTop (ef_rmmm m ob) k
  obtain ⟨T1, X1, e1, st1⟩ := getF X0 hx hZ hown (host := "") (Or.inl (hw _ (List.mem_of_getElem? (i := 21) rfl))) Via.refl e0 F_length (g := (mkF m 1 #[.val (.ref ob)] [(.ref ob)])) rfl rfl (hb hby d4_1)
  obtain ⟨T2, X2, e2, st2⟩ := getF X1 hx hZ hown (host := "") (Or.inl (hw _ (List.mem_of_getElem? (i := 27) rfl))) Via.refl e1 F_end (g := (mkF m 16 #[.val (.ref ob)] [(.ref ob)])) rfl rfl (hb hby d4_16)
  obtain ⟨T3, X3, e3, st3⟩ := getF X2 hx hZ hown (host := "") (Or.inl (hw _ (List.mem_of_getElem? (i := 36) rfl))) Via.refl e2 F_start (g := (mkF m 20 #[.val (.ref ob)] [(.ref ob), (.int z)])) rfl rfl (hb hby d4_20)
  obtain ⟨T4, X4, e4, st4⟩ := getF X3 hx hZ hown (host := "") (Or.inl (hw _ (List.mem_of_getElem? (i := 21) rfl))) Via.refl e3 F_length (g := (mkF m 26 #[.val (.ref ob)] [(.ref ob), (.long ((z - s).toInt64))])) rfl rfl (hb hby d4_26)
  obtain ⟨T5, X5, e5, st5⟩ := getF X4 hx hZ hown (host := "") (Or.inl (hw _ (List.mem_of_getElem? (i := 29) rfl))) Via.refl e4 F_read (g := (mkF m 31 #[.val (.ref ob)] [(.ref ob), (.long (((z - s).toInt64) + (z.toInt64)))])) rfl rfl (hb hby d4_31)
  have pre6 : ∀ t, Steps p.tables e below (T5.setTop (mkF m 35 #[.val (.ref ob)] [(.long ((((z - s).toInt64) + (z.toInt64)) - (z.toInt64)))])) t → Steps p.tables e below (s₁.setTop (entryFrame m #[(.ref ob)] 1)) t := fun t k => by
    refine pre0 t ?_
    show Steps p.tables e below (s₁.setTop (mkF m 0 #[.val (.ref ob)] [])) _
    refine XS.aloadN X0.here hx rfl (hb hby d4_0) rfl rfl ?_
    show Steps p.tables e below (s₁.setTop (mkF m 1 #[.val (.ref ob)] [(.ref ob)])) _
    refine st1 _ ?_
    show Steps p.tables e below (T1.setTop (mkF m 4 #[.val (.ref ob)] [(.long (z.toInt64))])) _
    refine XS.lconst X1.here hx rfl (hb hby d4_4) ?_
    show Steps p.tables e below (T1.setTop (mkF m 5 #[.val (.ref ob)] [(.long (0 : Int64)), (.long (z.toInt64))])) _
    refine XS.lcmp X1.here hx rfl (hb hby d4_5) rfl ?_
    show Steps p.tables e below (T1.setTop (mkF m 6 #[.val (.ref ob)] [(.int (lcmpW (z.toInt64) (0 : Int64)))])) _
    refine XS.ifYes X1.here hx rfl (pc0 := 6) (pc' := 15) rfl (hb hby d4_6) rfl ((if0 _ _).trans (flt (own_l0 hz : ¬ ((lcmpW (z.toInt64) (0 : Int64)) < (0 : Int32)))).2.1) (by decide) (by decide) ?_
    show Steps p.tables e below (T1.setTop (mkF m 15 #[.val (.ref ob)] [])) _
    refine XS.aloadN X1.here hx rfl (hb hby d4_15) rfl rfl ?_
    show Steps p.tables e below (T1.setTop (mkF m 16 #[.val (.ref ob)] [(.ref ob)])) _
    refine st2 _ ?_
    show Steps p.tables e below (T2.setTop (mkF m 19 #[.val (.ref ob)] [(.int z)])) _
    refine XS.aloadN X2.here hx rfl (hb hby d4_19) rfl rfl ?_
    show Steps p.tables e below (T2.setTop (mkF m 20 #[.val (.ref ob)] [(.ref ob), (.int z)])) _
    refine st3 _ ?_
    show Steps p.tables e below (T3.setTop (mkF m 23 #[.val (.ref ob)] [(.int s), (.int z)])) _
    refine XS.isub X3.here hx rfl (hb hby d4_23) rfl ?_
    show Steps p.tables e below (T3.setTop (mkF m 24 #[.val (.ref ob)] [(.int (z - s))])) _
    refine XS.i2l X3.here hx rfl (hb hby d4_24) rfl ?_
    show Steps p.tables e below (T3.setTop (mkF m 25 #[.val (.ref ob)] [(.long ((z - s).toInt64))])) _
    refine XS.aloadN X3.here hx rfl (hb hby d4_25) rfl rfl ?_
    show Steps p.tables e below (T3.setTop (mkF m 26 #[.val (.ref ob)] [(.ref ob), (.long ((z - s).toInt64))])) _
    refine st4 _ ?_
    show Steps p.tables e below (T4.setTop (mkF m 29 #[.val (.ref ob)] [(.long (z.toInt64)), (.long ((z - s).toInt64))])) _
    refine XS.ladd X4.here hx rfl (hb hby d4_29) rfl ?_
    show Steps p.tables e below (T4.setTop (mkF m 30 #[.val (.ref ob)] [(.long (((z - s).toInt64) + (z.toInt64)))])) _
    refine XS.aloadN X4.here hx rfl (hb hby d4_30) rfl rfl ?_
    show Steps p.tables e below (T4.setTop (mkF m 31 #[.val (.ref ob)] [(.ref ob), (.long (((z - s).toInt64) + (z.toInt64)))])) _
    refine st5 _ ?_
    show Steps p.tables e below (T5.setTop (mkF m 34 #[.val (.ref ob)] [(.long (z.toInt64)), (.long (((z - s).toInt64) + (z.toInt64)))])) _
    refine XS.lsub X5.here hx rfl (hb hby d4_34) rfl ?_
    exact k
  obtain ⟨fs, hrq, hrun, hended, hW, hsame⟩ := X5.leave (v := some (.long ((((z - s).toInt64) + (z.toInt64)) - (z.toInt64)))) (fun h => by rw [Bd.returns] at h; cases h)
  refine ⟨_, _, pre6 _ ?_, hrun, hended, _, _, rfl, ?_, ⟨_, rfl⟩, hW, hsame.mono (by decide) (by decide)⟩
  · show Steps p.tables e below (T5.setTop (mkF m 35 #[.val (.ref ob)] [(.long ((((z - s).toInt64) + (z.toInt64)) - (z.toInt64)))])) _
    exact retOut X5 hx Bd.returns rfl (Or.inr (Or.inl ⟨rfl, rfl, _, rfl⟩)) (hb hby d4_35) hrq
  · show Qmm Z ob z s h0 n0 _ T5.heap _
    rw [e5]
    exact ⟨by rw [own_mm], N0, rfl⟩
theorem d9_0 : decode prog_163_method_11_code 0 = .ok (.aload_n 0, 1) := by decide +kernel
theorem d9_1 : decode prog_163_method_11_code 1 = .ok (.getfield 90, 3) := by decide +kernel
theorem d9_4 : decode prog_163_method_11_code 4 = .ok (.ifCond .ne 15, 3) := by decide +kernel
theorem d9_7 : decode prog_163_method_11_code 7 = .ok (.aload_n 0, 1) := by decide +kernel
theorem d9_8 : decode prog_163_method_11_code 8 = .ok (.getfield 53, 3) := by decide +kernel
theorem d9_11 : decode prog_163_method_11_code 11 = .ok (.aload_n 0, 1) := by decide +kernel
theorem d9_12 : decode prog_163_method_11_code 12 = .ok (.getfield 27, 3) := by decide +kernel
theorem d9_15 : decode prog_163_method_11_code 15 = .ok (.lcmp, 1) := by decide +kernel
theorem d9_16 : decode prog_163_method_11_code 16 = .ok (.ifCond .ne 5, 3) := by decide +kernel
theorem d9_19 : decode prog_163_method_11_code 19 = .ok (.iconst 0, 1) := by decide +kernel
theorem d9_20 : decode prog_163_method_11_code 20 = .ok (.ireturn, 1) := by decide +kernel
theorem ef_rmfill (m : MethodId) (x0 : Addr) : entryFrame m #[(.ref x0)] 2 = mkF m 0 #[.val (.ref x0), .unset] [] := by first | (simp [entryFrame, mkF, argsToLocals, Value.category]; done) | rfl
def Qfill (Z : State) (ob : Addr) (z : Int32) (h0 : Heap) (n0 : Nat) (v : Option Value) (h : Heap) (L : List Loc) : Prop := v = some (.int 0) ∧ Fr n0 L ∧ h = h0
set_option maxRecDepth 65536 in
set_option maxHeartbeats 40000000 in
theorem rmfill (l : Launch) (Z : State) (a0 : Array Value) (hw : ∀ d ∈ tables_1, d.before a0 Z = true) (ws : List Jvm.Cond) (ob : Addr) (z : Int32) (h0 : Heap) (n0 : Nat) (Z0 : n0 ≤ h0.size) (F_atEnd : Fld Z h0 ob "quorumkeep/store/Messages$Reader" "atEnd" "Z" (.int (0 : Int32))) (F_read : Fld Z h0 ob "quorumkeep/store/Messages$Reader" "read" "J" (.long (z.toInt64))) (F_length : Fld Z h0 ob "quorumkeep/store/Messages$Reader" "length" "J" (.long (z.toInt64))) :
    MetFree l (⟨"quorumkeep/store/Messages$Reader", "fill", "()Z"⟩ : MethodName) (head1 (Jvm.Cond.code (⟨"quorumkeep/store/Messages$Reader", "fill", "()Z"⟩ : MethodName) prog_163_method_11_code 2 (some .boolean) :: ws) ({ frames := 0, cells := 0, slots := 0, locals := 0 } : Room)) (fun a U => a = #[(.ref ob)] ∧ Z.Warmed39 U.vm ∧ U.heap = h0) (fun _ _ _ _ _ => True) (fun _ U o U' => ∃ v L, o = .returned v ∧ Qfill Z ob z h0 n0 v U'.heap L ∧ FrameEnd U o U' L ({ frames := 0, cells := 0, slots := 0, locals := 0 } : Room).cells ({ frames := 0, cells := 0, slots := 0, locals := 0 } : Room).slots) := by
  refine MetFree.of_bodySF (plainFor_of_name pn_1) hisR ?_
  intro p e s0 m args below meth c s₁ Bd hml0 hP hK
  obtain ⟨rfl, hZ, hh⟩ := hP
  have hx := Bd.exec
  have hby := Bd.bytes
  have hml : c.maxLocals = 2 := hml0
  have hown : s0.vm.findClass "quorumkeep/store/Messages$Reader" = some m.cls := findClass_of_methodNamed Bd.named
  have hnm := (name_of_methodNamed Bd.named Bd.method).1
  have X0 : Stand p l e ({ frames := 0, cells := 0, slots := 0, locals := 0 } : Room) s0 m #[(.ref ob)] below meth c s₁ [] 0 0 := Stand.of_body Bd
  have e0 : s₁.heap = h0 := by rw [← hh, Bd.state]; rfl
  have N0 := Fr.nil n0
  have pre0 : ∀ t, Steps p.tables e below (s₁.setTop (mkF m 0 #[.val (.ref ob), .unset] [])) t → Steps p.tables e below (s₁.setTop (entryFrame m #[(.ref ob)] 2)) t := fun t k => castTop (ef_rmfill m ob) k
  obtain ⟨T1, X1, e1, st1⟩ := getF X0 hx hZ hown (host := "") (Or.inl (hw _ (List.mem_of_getElem? (i := 67) rfl))) Via.refl e0 F_atEnd (g := (mkF m 1 #[.val (.ref ob), .unset] [(.ref ob)])) rfl rfl (hb hby d9_1)
  obtain ⟨T2, X2, e2, st2⟩ := getF X1 hx hZ hown (host := "") (Or.inl (hw _ (List.mem_of_getElem? (i := 29) rfl))) Via.refl e1 F_read (g := (mkF m 8 #[.val (.ref ob), .unset] [(.ref ob)])) rfl rfl (hb hby d9_8)
  obtain ⟨T3, X3, e3, st3⟩ := getF X2 hx hZ hown (host := "") (Or.inl (hw _ (List.mem_of_getElem? (i := 21) rfl))) Via.refl e2 F_length (g := (mkF m 12 #[.val (.ref ob), .unset] [(.ref ob), (.long (z.toInt64))])) rfl rfl (hb hby d9_12)
  have pre4 : ∀ t, Steps p.tables e below (T3.setTop (mkF m 20 #[.val (.ref ob), .unset] [(.int (0 : Int32))])) t → Steps p.tables e below (s₁.setTop (entryFrame m #[(.ref ob)] 2)) t := fun t k => by
    refine pre0 t ?_
    show Steps p.tables e below (s₁.setTop (mkF m 0 #[.val (.ref ob), .unset] [])) _
    refine XS.aloadN X0.here hx rfl (hb hby d9_0) rfl rfl ?_
    show Steps p.tables e below (s₁.setTop (mkF m 1 #[.val (.ref ob), .unset] [(.ref ob)])) _
    refine st1 _ ?_
    show Steps p.tables e below (T1.setTop (mkF m 4 #[.val (.ref ob), .unset] [(.int (0 : Int32))])) _
    refine XS.ifNo X1.here hx rfl (hb hby d9_4) rfl ((if0 _ _).trans (teq (by decide : (0 : Int32) = (0 : Int32))).2) ?_
    show Steps p.tables e below (T1.setTop (mkF m 7 #[.val (.ref ob), .unset] [])) _
    refine XS.aloadN X1.here hx rfl (hb hby d9_7) rfl rfl ?_
    show Steps p.tables e below (T1.setTop (mkF m 8 #[.val (.ref ob), .unset] [(.ref ob)])) _
    refine st2 _ ?_
    show Steps p.tables e below (T2.setTop (mkF m 11 #[.val (.ref ob), .unset] [(.long (z.toInt64))])) _
    refine XS.aloadN X2.here hx rfl (hb hby d9_11) rfl rfl ?_
    show Steps p.tables e below (T2.setTop (mkF m 12 #[.val (.ref ob), .unset] [(.ref ob), (.long (z.toInt64))])) _
    refine st3 _ ?_
    show Steps p.tables e below (T3.setTop (mkF m 15 #[.val (.ref ob), .unset] [(.long (z.toInt64)), (.long (z.toInt64))])) _
    refine XS.lcmp X3.here hx rfl (hb hby d9_15) rfl ?_
    show Steps p.tables e below (T3.setTop (mkF m 16 #[.val (.ref ob), .unset] [(.int (lcmpW (z.toInt64) (z.toInt64)))])) _
    refine XS.ifNo X3.here hx rfl (hb hby d9_16) rfl ((if0 _ _).trans (teq (own_lc _ : (lcmpW (z.toInt64) (z.toInt64)) = (0 : Int32))).2) ?_
    show Steps p.tables e below (T3.setTop (mkF m 19 #[.val (.ref ob), .unset] [])) _
    refine XS.iconst X3.here hx rfl (hb hby d9_19) ?_
    exact k
  obtain ⟨fs, hrq, hrun, hended, hW, hsame⟩ := X3.leave (v := some (.int (0 : Int32))) (fun h => by rw [Bd.returns] at h; cases h)
  refine ⟨_, _, pre4 _ ?_, hrun, hended, _, _, rfl, ?_, ⟨_, rfl⟩, hW, hsame.mono (by decide) (by decide)⟩
  · show Steps p.tables e below (T3.setTop (mkF m 20 #[.val (.ref ob), .unset] [(.int (0 : Int32))])) _
    exact retN X3 hx (t := .boolean) Bd.returns (by simp) (hb hby d9_20) hrq
  · show Qfill Z ob z h0 n0 _ T3.heap _
    rw [e3]
    exact ⟨rfl, N0, rfl⟩
theorem d14_0 : decode jdk_65_method_131_code 0 = .ok (.iload_n 1, 1) := by decide +kernel
theorem d14_1 : decode jdk_65_method_131_code 1 = .ok (.iload_n 0, 1) := by decide +kernel
theorem d14_2 : decode jdk_65_method_131_code 2 = .ok (.if_icmp .ge 35, 3) := by decide +kernel
theorem d14_37 : decode jdk_65_method_131_code 37 = .ok (.return_, 1) := by decide +kernel
theorem ef_rmchk (m : MethodId) (x0 : Int32) (x1 : Int32) : entryFrame m #[(.int x0), (.int x1)] 2 = mkF m 0 #[.val (.int x0), .val (.int x1)] [] := by first | (simp [entryFrame, mkF, argsToLocals, Value.category]; done) | rfl
theorem pn_2 : plainName "java/util/Arrays" = true := by first | (simp [plainName, overriddenIn]; done) | decide +kernel
def Qchk (Z : State) (p0 : Int32) (p1 : Int32) (h0 : Heap) (n0 : Nat) (v : Option Value) (h : Heap) (L : List Loc) : Prop := v = none ∧ Fr n0 L ∧ h = h0
set_option maxRecDepth 65536 in
set_option maxHeartbeats 40000000 in
theorem rmchk (l : Launch) (Z : State) (a0 : Array Value) (hw : ∀ d ∈ tables_1, d.before a0 Z = true) (ws : List Jvm.Cond) (p0 : Int32) (p1 : Int32) (h0 : Heap) (n0 : Nat) (Z0 : n0 ≤ h0.size) (hp : ¬ (p1 < p0)) :
    MetFree l (⟨"java/util/Arrays", "checkLength", "(II)V"⟩ : MethodName) (head1 (Jvm.Cond.code (⟨"java/util/Arrays", "checkLength", "(II)V"⟩ : MethodName) jdk_65_method_131_code 2 none :: ws) ({ frames := 0, cells := 0, slots := 0, locals := 0 } : Room)) (fun a U => a = #[(.int p0), (.int p1)] ∧ Z.Warmed39 U.vm ∧ U.heap = h0) (fun _ _ _ _ _ => True) (fun _ U o U' => ∃ v L, o = .returned v ∧ Qchk Z p0 p1 h0 n0 v U'.heap L ∧ FrameEnd U o U' L ({ frames := 0, cells := 0, slots := 0, locals := 0 } : Room).cells ({ frames := 0, cells := 0, slots := 0, locals := 0 } : Room).slots) := by
  refine MetFree.of_bodySF (plainFor_of_name pn_2) hisR ?_
  intro p e s0 m args below meth c s₁ Bd hml0 hP hK
  obtain ⟨rfl, hZ, hh⟩ := hP
  have hx := Bd.exec
  have hby := Bd.bytes
  have hml : c.maxLocals = 2 := hml0
  have hown : s0.vm.findClass "java/util/Arrays" = some m.cls := findClass_of_methodNamed Bd.named
  have hnm := (name_of_methodNamed Bd.named Bd.method).1
  have X0 : Stand p l e ({ frames := 0, cells := 0, slots := 0, locals := 0 } : Room) s0 m #[(.int p0), (.int p1)] below meth c s₁ [] 0 0 := Stand.of_body Bd
  have e0 : s₁.heap = h0 := by rw [← hh, Bd.state]; rfl
  have N0 := Fr.nil n0
  have pre0 : ∀ t, Steps p.tables e below (s₁.setTop (mkF m 0 #[.val (.int p0), .val (.int p1)] [])) t → Steps p.tables e below (s₁.setTop (entryFrame m #[(.int p0), (.int p1)] 2)) t := fun t k => castTop (ef_rmchk m p0 p1) k
  have pre1 : ∀ t, Steps p.tables e below (s₁.setTop (mkF m 37 #[.val (.int p0), .val (.int p1)] [])) t → Steps p.tables e below (s₁.setTop (entryFrame m #[(.int p0), (.int p1)] 2)) t := fun t k => by
    refine pre0 t ?_
    show Steps p.tables e below (s₁.setTop (mkF m 0 #[.val (.int p0), .val (.int p1)] [])) _
    refine XS.iloadN X0.here hx rfl (hb hby d14_0) rfl ?_
    show Steps p.tables e below (s₁.setTop (mkF m 1 #[.val (.int p0), .val (.int p1)] [(.int p1)])) _
    refine XS.iloadN X0.here hx rfl (hb hby d14_1) rfl ?_
    show Steps p.tables e below (s₁.setTop (mkF m 2 #[.val (.int p0), .val (.int p1)] [(.int p0), (.int p1)])) _
    refine XS.icmpYes X0.here hx rfl (pc0 := 2) (pc' := 37) rfl (hb hby d14_2) rfl (flt (hp : ¬ (p1 < p0))).2.1 (by decide) (by decide) ?_
    exact k
  obtain ⟨fs, hrq, hrun, hended, hW, hsame⟩ := X0.leave (v := none) (fun _ => rfl)
  refine ⟨_, _, pre1 _ ?_, hrun, hended, _, _, rfl, ?_, ⟨_, rfl⟩, hW, hsame.mono (by decide) (by decide)⟩
  · show Steps p.tables e below (s₁.setTop (mkF m 37 #[.val (.int p0), .val (.int p1)] [])) _
    exact X0.returnOut hx Bd.returns (hb hby d14_37) hrq
  · show Qchk Z p0 p1 h0 n0 _ s₁.heap _
    rw [e0]
    exact ⟨rfl, N0, rfl⟩
theorem pd_1 : parseMethodDescriptor "(II)V" = some ⟨[.int, .int], none⟩ := by decide +kernel
theorem pd_2 : parseMethodDescriptor "(II)I" = some ⟨[.int, .int], some .int⟩ := by decide +kernel
theorem d13_0 : decode jdk_65_method_133_code 0 = .ok (.iload_n 1, 1) := by decide +kernel
theorem d13_1 : decode jdk_65_method_133_code 1 = .ok (.iload_n 2, 1) := by decide +kernel
theorem d13_2 : decode jdk_65_method_133_code 2 = .ok (.invokestatic 343, 3) := by decide +kernel
theorem d13_5 : decode jdk_65_method_133_code 5 = .ok (.iload_n 2, 1) := by decide +kernel
theorem d13_6 : decode jdk_65_method_133_code 6 = .ok (.iload_n 1, 1) := by decide +kernel
theorem d13_7 : decode jdk_65_method_133_code 7 = .ok (.isub, 1) := by decide +kernel
theorem d13_8 : decode jdk_65_method_133_code 8 = .ok (.istore_n 3, 1) := by decide +kernel
theorem d13_9 : decode jdk_65_method_133_code 9 = .ok (.iload_n 3, 1) := by decide +kernel
theorem d13_10 : decode jdk_65_method_133_code 10 = .ok (.newarray .byte, 2) := by decide +kernel
theorem d13_12 : decode jdk_65_method_133_code 12 = .ok (.astore 4, 2) := by decide +kernel
theorem d13_14 : decode jdk_65_method_133_code 14 = .ok (.aload_n 0, 1) := by decide +kernel
theorem d13_15 : decode jdk_65_method_133_code 15 = .ok (.iload_n 1, 1) := by decide +kernel
theorem d13_16 : decode jdk_65_method_133_code 16 = .ok (.aload 4, 2) := by decide +kernel
theorem d13_18 : decode jdk_65_method_133_code 18 = .ok (.iconst 0, 1) := by decide +kernel
theorem d13_19 : decode jdk_65_method_133_code 19 = .ok (.aload_n 0, 1) := by decide +kernel
theorem d13_20 : decode jdk_65_method_133_code 20 = .ok (.arraylength, 1) := by decide +kernel
theorem d13_21 : decode jdk_65_method_133_code 21 = .ok (.iload_n 1, 1) := by decide +kernel
theorem d13_22 : decode jdk_65_method_133_code 22 = .ok (.isub, 1) := by decide +kernel
theorem d13_23 : decode jdk_65_method_133_code 23 = .ok (.iload_n 3, 1) := by decide +kernel
theorem d13_24 : decode jdk_65_method_133_code 24 = .ok (.invokestatic 304, 3) := by decide +kernel
theorem d13_27 : decode jdk_65_method_133_code 27 = .ok (.invokestatic 150, 3) := by decide +kernel
theorem d13_30 : decode jdk_65_method_133_code 30 = .ok (.aload 4, 2) := by decide +kernel
theorem d13_32 : decode jdk_65_method_133_code 32 = .ok (.areturn, 1) := by decide +kernel
theorem ef_rmcrb (m : MethodId) (x0 : Addr) (x1 : Int32) (x2 : Int32) : entryFrame m #[(.ref x0), (.int x1), (.int x2)] 5 = mkF m 0 #[.val (.ref x0), .val (.int x1), .val (.int x2), .unset, .unset] [] := by first | (simp [entryFrame, mkF, argsToLocals, Value.category]; done) | rfl
def Qcrb (Z : State) (ar : Addr) (p1 : Int32) (p2 : Int32) (kk : ClassId) (z : Int32) (vs : List Value) (dv : Value) (h0 : Heap) (n0 : Nat) (v : Option Value) (h : Heap) (L : List Loc) : Prop := ∃ x : Addr, v = some (.ref x) ∧ Fr n0 L ∧ Keep h0 h []
set_option maxRecDepth 65536 in
set_option maxHeartbeats 40000000 in
theorem rmcrb (l : Launch) (Z : State) (a0 : Array Value) (hw : ∀ d ∈ tables_1, d.before a0 Z = true) (ws : List Jvm.Cond) (ar : Addr) (p1 : Int32) (p2 : Int32) (kk : ClassId) (z : Int32) (vs : List Value) (dv : Value) (h0 : Heap) (n0 : Nat) (Z0 : n0 ≤ h0.size) (V_ar : Arv Z h0 ar kk .byte z vs dv) (hB : 0 ≤ p1.toInt ∧ p1.toInt ≤ p2.toInt ∧ p2.toInt ≤ z.toInt ∧ z.toInt ≤ 4) :
    MetFree l (⟨"java/util/Arrays", "copyOfRangeByte", "([BII)[B"⟩ : MethodName) (head1 (Jvm.Cond.code (⟨"java/util/Arrays", "copyOfRangeByte", "([BII)[B"⟩ : MethodName) jdk_65_method_133_code 5 (some (.array .byte)) :: ws) ({ frames := 1, cells := 1, slots := 4, locals := 18 } : Room)) (fun a U => a = #[(.ref ar), (.int p1), (.int p2)] ∧ Z.Warmed39 U.vm ∧ U.heap = h0) (fun _ _ _ _ _ => True) (fun _ U o U' => ∃ v L, o = .returned v ∧ Qcrb Z ar p1 p2 kk z vs dv h0 n0 v U'.heap L ∧ FrameEnd U o U' L ({ frames := 1, cells := 1, slots := 4, locals := 18 } : Room).cells ({ frames := 1, cells := 1, slots := 4, locals := 18 } : Room).slots) := by
  refine MetFree.of_bodySF (plainFor_of_name pn_2) hisR ?_
  intro p e s0 m args below meth c s₁ Bd hml0 hP hK
  obtain ⟨rfl, hZ, hh⟩ := hP
  have hx := Bd.exec
  have hby := Bd.bytes
  have hml : c.maxLocals = 5 := hml0
  have hown : s0.vm.findClass "java/util/Arrays" = some m.cls := findClass_of_methodNamed Bd.named
  have hnm := (name_of_methodNamed Bd.named Bd.method).1
  have X0 : Stand p l e ({ frames := 1, cells := 1, slots := 4, locals := 18 } : Room) s0 m #[(.ref ar), (.int p1), (.int p2)] below meth c s₁ [] 0 0 := Stand.of_body Bd
  have e0 : s₁.heap = h0 := by rw [← hh, Bd.state]; rfl
  have N0 := Fr.nil n0
  have pre0 : ∀ t, Steps p.tables e below (s₁.setTop (mkF m 0 #[.val (.ref ar), .val (.int p1), .val (.int p2), .unset, .unset] [])) t → Steps p.tables e below (s₁.setTop (entryFrame m #[(.ref ar), (.int p1), (.int p2)] 5)) t := fun t k => castTop (ef_rmcrb m ar p1 p2) k
  obtain ⟨_, _, ⟨T1, L1, k1, n1⟩, -, X1, ⟨Lc1, hQ1, l1, y1, z1⟩, st1⟩ := Jvm.LawKit.callS X0 hx (y := (⟨"java/util/Arrays", "checkLength", "(II)V"⟩ : MethodName)) hown (mvT hZ (hw _ (List.mem_of_getElem? (i := 82) rfl))) (mvT hZ (hw _ (List.mem_of_getElem? (i := 83) rfl))) (mvT hZ (hw _ (List.mem_of_getElem? (i := 77) rfl))) (mvT hZ (hw _ (List.mem_of_getElem? (i := 84) rfl))) (by decide) (backOf (W := 0) (rmchk l Z a0 hw [] p1 p2 h0 n0 Z0 (own_cr1 hB)) hZ (hw _ (List.mem_of_getElem? (i := 84) rfl)) (hw _ (List.mem_of_getElem? (i := 77) rfl)) (by decide) (by decide)) (g := (mkF m 2 #[.val (.ref ar), .val (.int p1), .val (.int p2), .unset, .unset] [(.int p2), (.int p1)])) rfl (by rw [hml]; rfl) (argsL := [(.int p1), (.int p2)]) (rest := []) (lenOf pd_1 rfl) rfl (by show 2 * 0 + _ ≤ _; exact Nat.le_of_eq rfl) (hb hby d13_2) (fun _ _ => ⟨rfl, e0, (by decide : 0 + 0 ≤ _), (by decide : 0 + 0 ≤ _)⟩)
  dsimp only [Pt.U, Pt.locs, Pt.cells, Pt.slots] at X1 l1 y1 z1 st1 hQ1
  subst l1 y1 z1
  obtain ⟨rfl, Nq1, hh1⟩ := hQ1
  have N1 := Fr.app N0 Nq1
  have e1 : T1.heap = h0 := hh1
  obtain ⟨T2, h2, k2, X2, e2, E2, A2, st2⟩ := newP X1 hx hZ (hw _ (List.mem_of_getElem? (i := 5) rfl)) e1 (g := (mkF m 10 #[.val (.ref ar), .val (.int p1), .val (.int p2), .val (.int (p2 - p1)), .unset] [(.int (p2 - p1))])) rfl (hb hby d13_10) rfl (own_cr2 hB) (cap := 4) (own_cr3 hB) (by decide) (by decide) (by decide)
  obtain ⟨b2, g2⟩ : ∃ z, z = h0.size := ⟨_, rfl⟩
  rw [← g2] at A2 st2
  have g_b2 : n0 ≤ b2 := Nat.le_trans Z0 (Nat.le_of_eq g2.symm)
  have sz_b2 : h0.size ≤ b2 := Nat.le_trans (Keep.refl h0 []).1 (Nat.le_of_eq g2.symm)
  have Z3 : n0 ≤ h2.size := Nat.le_trans Z0 E2.1
  have K2 : Keep h0 h2 [] := (Keep.refl h0 []).ext E2
  have V2 : Arv Z h2 b2 k2 .byte (p2 - p1) [(.int (0 : Int32)), (.int (0 : Int32)), (.int (0 : Int32)), (.int (0 : Int32))] (.int (0 : Int32)) := (Arv.new A2 (own_cr2 hB)).pad (pad_rep [] (.int (0 : Int32)) 4)
  have c4 : Arv Z h2 ar kk .byte z vs dv := (V_ar.ext E2)
  obtain ⟨cl5, Ar5, -, Sz5, Nz5, -, -⟩ := id c4
  obtain ⟨_, _, ⟨T6, L6, k6, n6⟩, -, X6, ⟨Lc6, hQ6, l6, y6, z6⟩, st6⟩ := Jvm.LawKit.callS X2 hx (y := (⟨"java/lang/Math", "min", "(II)I"⟩ : MethodName)) hown (mvT hZ (hw _ (List.mem_of_getElem? (i := 85) rfl))) (mvT hZ (hw _ (List.mem_of_getElem? (i := 60) rfl))) (mvT hZ (hw _ (List.mem_of_getElem? (i := 61) rfl))) (mvT hZ (hw _ (List.mem_of_getElem? (i := 62) rfl))) (by decide) (backOf (W := 4) (rmmin l Z a0 hw [] (z - p1) (p2 - p1) (p2 - p1) h2 n0 Z3 (own_crm hB)) hZ (hw _ (List.mem_of_getElem? (i := 62) rfl)) (hw _ (List.mem_of_getElem? (i := 61) rfl)) (by decide) (by decide)) (g := (mkF m 24 #[.val (.ref ar), .val (.int p1), .val (.int p2), .val (.int (p2 - p1)), .val (.ref b2)] [(.int (p2 - p1)), (.int (z - p1)), (.int (0 : Int32)), (.ref b2), (.int p1), (.ref ar)])) rfl (by rw [hml]; rfl) (argsL := [(.int (z - p1)), (.int (p2 - p1))]) (rest := [(.int (0 : Int32)), (.ref b2), (.int p1), (.ref ar)]) (lenOf pd_2 rfl) rfl (by show 2 * 0 + _ ≤ _; exact Nat.le_of_eq rfl) (hb hby d13_24) (fun _ _ => ⟨rfl, e2, (by decide : 1 + 0 ≤ _), (by decide : 4 + 0 ≤ _)⟩)
  dsimp only [Pt.U, Pt.locs, Pt.cells, Pt.slots] at X6 l6 y6 z6 st6 hQ6
  subst l6 y6 z6
  obtain ⟨rfl, Nq6, hh6⟩ := hQ6
  have N6 := Fr.app N1 Nq6
  have e6 : T6.heap = h2 := hh6
  obtain ⟨T7, h7, Lc7, X7, e7, N7, Kc7, Vc7, st7⟩ := cpA X6 hx hZ hown (hw _ (List.mem_of_getElem? (i := 86) rfl)) (hw _ (List.mem_of_getElem? (i := 89) rfl)) (hw _ (List.mem_of_getElem? (i := 87) rfl)) (hw _ (List.mem_of_getElem? (i := 88) rfl)) e6 c4 V2 (Or.inl ⟨rfl, rfl⟩) (own_cr4 hB) (by decide) (own_cr2 hB) (own_cr5 hB) (Nat.le_of_eq (Nat.zero_add _)) rfl (by show 0 + _ ≤ 4; rw [Nat.zero_add]; exact own_cr3 hB) N6 g_b2 (g := (mkF m 27 #[.val (.ref ar), .val (.int p1), .val (.int p2), .val (.int (p2 - p1)), .val (.ref b2)] [(.int (p2 - p1)), (.int (0 : Int32)), (.ref b2), (.int p1), (.ref ar)])) rfl (by rw [hml]; rfl) rfl (hb hby d13_27) (by decide) (W := 0) (by show 2 * 0 + _ ≤ _; exact Nat.le_of_eq rfl) (by decide)
  have Z8 : n0 ≤ h7.size := Nat.le_trans Z3 Kc7.1
  have K9 : Keep h0 h7 [] := K2.trans Kc7 (allS (Or.inr sz_b2) all0)
  obtain ⟨vc7, Vd7⟩ : ∃ vs, Arv Z h7 b2 k2 .byte (p2 - p1) vs (.int (0 : Int32)) := ⟨_, Vc7⟩
  have pre10 : ∀ t, Steps p.tables e below (T7.setTop (mkF m 32 #[.val (.ref ar), .val (.int p1), .val (.int p2), .val (.int (p2 - p1)), .val (.ref b2)] [(.ref b2)])) t → Steps p.tables e below (s₁.setTop (entryFrame m #[(.ref ar), (.int p1), (.int p2)] 5)) t := fun t k => by
    refine pre0 t ?_
    show Steps p.tables e below (s₁.setTop (mkF m 0 #[.val (.ref ar), .val (.int p1), .val (.int p2), .unset, .unset] [])) _
    refine XS.iloadN X0.here hx rfl (hb hby d13_0) rfl ?_
    show Steps p.tables e below (s₁.setTop (mkF m 1 #[.val (.ref ar), .val (.int p1), .val (.int p2), .unset, .unset] [(.int p1)])) _
    refine XS.iloadN X0.here hx rfl (hb hby d13_1) rfl ?_
    show Steps p.tables e below (s₁.setTop (mkF m 2 #[.val (.ref ar), .val (.int p1), .val (.int p2), .unset, .unset] [(.int p2), (.int p1)])) _
    refine st1 _ ?_
    show Steps p.tables e below (T1.setTop (mkF m 5 #[.val (.ref ar), .val (.int p1), .val (.int p2), .unset, .unset] [])) _
    refine XS.iloadN X1.here hx rfl (hb hby d13_5) rfl ?_
    show Steps p.tables e below (T1.setTop (mkF m 6 #[.val (.ref ar), .val (.int p1), .val (.int p2), .unset, .unset] [(.int p2)])) _
    refine XS.iloadN X1.here hx rfl (hb hby d13_6) rfl ?_
    show Steps p.tables e below (T1.setTop (mkF m 7 #[.val (.ref ar), .val (.int p1), .val (.int p2), .unset, .unset] [(.int p1), (.int p2)])) _
    refine XS.isub X1.here hx rfl (hb hby d13_7) rfl ?_
    show Steps p.tables e below (T1.setTop (mkF m 8 #[.val (.ref ar), .val (.int p1), .val (.int p2), .unset, .unset] [(.int (p2 - p1))])) _
    refine XS.istoreN X1.here hx rfl (hb hby d13_8) rfl (l' := #[.val (.ref ar), .val (.int p1), .val (.int p2), .val (.int (p2 - p1)), .unset]) rfl ?_
    show Steps p.tables e below (T1.setTop (mkF m 9 #[.val (.ref ar), .val (.int p1), .val (.int p2), .val (.int (p2 - p1)), .unset] [])) _
    refine XS.iloadN X1.here hx rfl (hb hby d13_9) rfl ?_
    show Steps p.tables e below (T1.setTop (mkF m 10 #[.val (.ref ar), .val (.int p1), .val (.int p2), .val (.int (p2 - p1)), .unset] [(.int (p2 - p1))])) _
    refine st2 _ ?_
    show Steps p.tables e below (T2.setTop (mkF m 12 #[.val (.ref ar), .val (.int p1), .val (.int p2), .val (.int (p2 - p1)), .unset] [(.ref b2)])) _
    refine XS.astore X2.here hx rfl (hb hby d13_12) rfl rfl (l' := #[.val (.ref ar), .val (.int p1), .val (.int p2), .val (.int (p2 - p1)), .val (.ref b2)]) rfl ?_
    show Steps p.tables e below (T2.setTop (mkF m 14 #[.val (.ref ar), .val (.int p1), .val (.int p2), .val (.int (p2 - p1)), .val (.ref b2)] [])) _
    refine XS.aloadN X2.here hx rfl (hb hby d13_14) rfl rfl ?_
    show Steps p.tables e below (T2.setTop (mkF m 15 #[.val (.ref ar), .val (.int p1), .val (.int p2), .val (.int (p2 - p1)), .val (.ref b2)] [(.ref ar)])) _
    refine XS.iloadN X2.here hx rfl (hb hby d13_15) rfl ?_
    show Steps p.tables e below (T2.setTop (mkF m 16 #[.val (.ref ar), .val (.int p1), .val (.int p2), .val (.int (p2 - p1)), .val (.ref b2)] [(.int p1), (.ref ar)])) _
    refine XS.aload X2.here hx rfl (hb hby d13_16) rfl rfl ?_
    show Steps p.tables e below (T2.setTop (mkF m 18 #[.val (.ref ar), .val (.int p1), .val (.int p2), .val (.int (p2 - p1)), .val (.ref b2)] [(.ref b2), (.int p1), (.ref ar)])) _
    refine XS.iconst X2.here hx rfl (hb hby d13_18) ?_
    show Steps p.tables e below (T2.setTop (mkF m 19 #[.val (.ref ar), .val (.int p1), .val (.int p2), .val (.int (p2 - p1)), .val (.ref b2)] [(.int (0 : Int32)), (.ref b2), (.int p1), (.ref ar)])) _
    refine XS.aloadN X2.here hx rfl (hb hby d13_19) rfl rfl ?_
    show Steps p.tables e below (T2.setTop (mkF m 20 #[.val (.ref ar), .val (.int p1), .val (.int p2), .val (.int (p2 - p1)), .val (.ref b2)] [(.ref ar), (.int (0 : Int32)), (.ref b2), (.int p1), (.ref ar)])) _
    refine X2.arraylength hx (by rw [e2]; exact Ar5.1) (State.isArrayOf_alike hZ.alike Ar5.2.1) (g := (mkF m 20 #[.val (.ref ar), .val (.int p1), .val (.int p2), .val (.int (p2 - p1)), .val (.ref b2)] [(.ref ar), (.int (0 : Int32)), (.ref b2), (.int p1), (.ref ar)])) rfl rfl (hb hby d13_20) _ ?_
    rw [len_of Sz5 Nz5]
    show Steps p.tables e below (T2.setTop (mkF m 21 #[.val (.ref ar), .val (.int p1), .val (.int p2), .val (.int (p2 - p1)), .val (.ref b2)] [(.int z), (.int (0 : Int32)), (.ref b2), (.int p1), (.ref ar)])) _
    refine XS.iloadN X2.here hx rfl (hb hby d13_21) rfl ?_
    show Steps p.tables e below (T2.setTop (mkF m 22 #[.val (.ref ar), .val (.int p1), .val (.int p2), .val (.int (p2 - p1)), .val (.ref b2)] [(.int p1), (.int z), (.int (0 : Int32)), (.ref b2), (.int p1), (.ref ar)])) _
    refine XS.isub X2.here hx rfl (hb hby d13_22) rfl ?_
    show Steps p.tables e below (T2.setTop (mkF m 23 #[.val (.ref ar), .val (.int p1), .val (.int p2), .val (.int (p2 - p1)), .val (.ref b2)] [(.int (z - p1)), (.int (0 : Int32)), (.ref b2), (.int p1), (.ref ar)])) _
    refine XS.iloadN X2.here hx rfl (hb hby d13_23) rfl ?_
    show Steps p.tables e below (T2.setTop (mkF m 24 #[.val (.ref ar), .val (.int p1), .val (.int p2), .val (.int (p2 - p1)), .val (.ref b2)] [(.int (p2 - p1)), (.int (z - p1)), (.int (0 : Int32)), (.ref b2), (.int p1), (.ref ar)])) _
    refine st6 _ ?_
    show Steps p.tables e below (T6.setTop (mkF m 27 #[.val (.ref ar), .val (.int p1), .val (.int p2), .val (.int (p2 - p1)), .val (.ref b2)] [(.int (p2 - p1)), (.int (0 : Int32)), (.ref b2), (.int p1), (.ref ar)])) _
    refine st7 _ ?_
    show Steps p.tables e below (T7.setTop (mkF m 30 #[.val (.ref ar), .val (.int p1), .val (.int p2), .val (.int (p2 - p1)), .val (.ref b2)] [])) _
    refine XS.aload X7.here hx rfl (hb hby d13_30) rfl rfl ?_
    exact k
  obtain ⟨fs, hrq, hrun, hended, hW, hsame⟩ := X7.leave (v := some (.ref b2)) (fun h => by rw [Bd.returns] at h; cases h)
  refine ⟨_, _, pre10 _ ?_, hrun, hended, _, _, rfl, ?_, ⟨_, rfl⟩, hW, hsame.mono (by decide) (by decide)⟩
  · show Steps p.tables e below (T7.setTop (mkF m 32 #[.val (.ref ar), .val (.int p1), .val (.int p2), .val (.int (p2 - p1)), .val (.ref b2)] [(.ref b2)])) _
    exact retOut X7 hx Bd.returns rfl (Or.inr (Or.inr (Or.inr (Or.inr ⟨rfl, rfl, rfl⟩)))) (hb hby d13_32) hrq
  · show Qcrb Z ar p1 p2 kk z vs dv h0 n0 _ T7.heap _
    rw [e7]
    exact ⟨_, rfl, N7, K9⟩
theorem pd_3 : parseMethodDescriptor "([BII)[B" = some ⟨[(.array .byte), .int, .int], some (.array .byte)⟩ := by decide +kernel
theorem d12_0 : decode jdk_65_method_132_code 0 = .ok (.iload_n 1, 1) := by decide +kernel
theorem d12_1 : decode jdk_65_method_132_code 1 = .ok (.ifCond .ne 9, 3) := by decide +kernel
theorem d12_4 : decode jdk_65_method_132_code 4 = .ok (.iload_n 2, 1) := by decide +kernel
theorem d12_5 : decode jdk_65_method_132_code 5 = .ok (.aload_n 0, 1) := by decide +kernel
theorem d12_6 : decode jdk_65_method_132_code 6 = .ok (.arraylength, 1) := by decide +kernel
theorem d12_7 : decode jdk_65_method_132_code 7 = .ok (.if_icmp .eq 10, 3) := by decide +kernel
theorem d12_10 : decode jdk_65_method_132_code 10 = .ok (.aload_n 0, 1) := by decide +kernel
theorem d12_11 : decode jdk_65_method_132_code 11 = .ok (.iload_n 1, 1) := by decide +kernel
theorem d12_12 : decode jdk_65_method_132_code 12 = .ok (.iload_n 2, 1) := by decide +kernel
theorem d12_13 : decode jdk_65_method_132_code 13 = .ok (.invokestatic 339, 3) := by decide +kernel
theorem d12_16 : decode jdk_65_method_132_code 16 = .ok (.areturn, 1) := by decide +kernel
theorem ef_rmcr (m : MethodId) (x0 : Addr) (x1 : Int32) (x2 : Int32) : entryFrame m #[(.ref x0), (.int x1), (.int x2)] 3 = mkF m 0 #[.val (.ref x0), .val (.int x1), .val (.int x2)] [] := by first | (simp [entryFrame, mkF, argsToLocals, Value.category]; done) | rfl
def Qcr (Z : State) (ar : Addr) (p1 : Int32) (p2 : Int32) (kk : ClassId) (z : Int32) (vs : List Value) (dv : Value) (h0 : Heap) (n0 : Nat) (v : Option Value) (h : Heap) (L : List Loc) : Prop := ∃ x : Addr, v = some (.ref x) ∧ Fr n0 L ∧ Keep h0 h []
set_option maxRecDepth 65536 in
set_option maxHeartbeats 40000000 in
theorem rmcr (l : Launch) (Z : State) (a0 : Array Value) (hw : ∀ d ∈ tables_1, d.before a0 Z = true) (ws : List Jvm.Cond) (ar : Addr) (p1 : Int32) (p2 : Int32) (kk : ClassId) (z : Int32) (vs : List Value) (dv : Value) (h0 : Heap) (n0 : Nat) (Z0 : n0 ≤ h0.size) (V_ar : Arv Z h0 ar kk .byte z vs dv) (hB : 0 ≤ p1.toInt ∧ p1.toInt ≤ p2.toInt ∧ p2.toInt ≤ z.toInt ∧ z.toInt ≤ 4) (hne : ¬ (p2 = z)) :
    MetFree l (⟨"java/util/Arrays", "copyOfRange", "([BII)[B"⟩ : MethodName) (head1 (Jvm.Cond.code (⟨"java/util/Arrays", "copyOfRange", "([BII)[B"⟩ : MethodName) jdk_65_method_132_code 3 (some (.array .byte)) :: ws) ({ frames := 2, cells := 1, slots := 4, locals := 34 } : Room)) (fun a U => a = #[(.ref ar), (.int p1), (.int p2)] ∧ Z.Warmed39 U.vm ∧ U.heap = h0) (fun _ _ _ _ _ => True) (fun _ U o U' => ∃ v L, o = .returned v ∧ Qcr Z ar p1 p2 kk z vs dv h0 n0 v U'.heap L ∧ FrameEnd U o U' L ({ frames := 2, cells := 1, slots := 4, locals := 34 } : Room).cells ({ frames := 2, cells := 1, slots := 4, locals := 34 } : Room).slots) := by
  refine MetFree.of_bodySF (plainFor_of_name pn_2) hisR ?_
  intro p e s0 m args below meth c s₁ Bd hml0 hP hK
  obtain ⟨rfl, hZ, hh⟩ := hP
  have hx := Bd.exec
  have hby := Bd.bytes
  have hml : c.maxLocals = 3 := hml0
  have hown : s0.vm.findClass "java/util/Arrays" = some m.cls := findClass_of_methodNamed Bd.named
  have hnm := (name_of_methodNamed Bd.named Bd.method).1
  have X0 : Stand p l e ({ frames := 2, cells := 1, slots := 4, locals := 34 } : Room) s0 m #[(.ref ar), (.int p1), (.int p2)] below meth c s₁ [] 0 0 := Stand.of_body Bd
  have e0 : s₁.heap = h0 := by rw [← hh, Bd.state]; rfl
  have N0 := Fr.nil n0
  have pre0 : ∀ t, Steps p.tables e below (s₁.setTop (mkF m 0 #[.val (.ref ar), .val (.int p1), .val (.int p2)] [])) t → Steps p.tables e below (s₁.setTop (entryFrame m #[(.ref ar), (.int p1), (.int p2)] 3)) t := fun t k => castTop (ef_rmcr m ar p1 p2) k
  have pre1 : ∀ t, Steps p.tables e below (s₁.setTop (mkF m 1 #[.val (.ref ar), .val (.int p1), .val (.int p2)] [(.int p1)])) t → Steps p.tables e below (s₁.setTop (entryFrame m #[(.ref ar), (.int p1), (.int p2)] 3)) t := fun t k => by
    refine pre0 t ?_
    show Steps p.tables e below (s₁.setTop (mkF m 0 #[.val (.ref ar), .val (.int p1), .val (.int p2)] [])) _
    refine XS.iloadN X0.here hx rfl (hb hby d12_0) rfl ?_
    exact k
  by_cases hc1_2 : p1 = (0 : Int32)
  · obtain ⟨cl3, Ar3, -, Sz3, Nz3, -, -⟩ := id V_ar
    obtain ⟨_, _, ⟨T4, L4, k4, n4⟩, -, X4, ⟨Lc4, hQ4, l4, y4, z4⟩, st4⟩ := Jvm.LawKit.callS X0 hx (y := (⟨"java/util/Arrays", "copyOfRangeByte", "([BII)[B"⟩ : MethodName)) hown (mvT hZ (hw _ (List.mem_of_getElem? (i := 79) rfl))) (mvT hZ (hw _ (List.mem_of_getElem? (i := 80) rfl))) (mvT hZ (hw _ (List.mem_of_getElem? (i := 77) rfl))) (mvT hZ (hw _ (List.mem_of_getElem? (i := 81) rfl))) (by decide) (backOf (W := 0) (rmcrb l Z a0 hw [] ar p1 p2 kk z vs dv h0 n0 Z0 V_ar hB) hZ (hw _ (List.mem_of_getElem? (i := 81) rfl)) (hw _ (List.mem_of_getElem? (i := 77) rfl)) (by decide) (by decide)) (g := (mkF m 13 #[.val (.ref ar), .val (.int p1), .val (.int p2)] [(.int p2), (.int p1), (.ref ar)])) rfl (by rw [hml]; rfl) (argsL := [(.ref ar), (.int p1), (.int p2)]) (rest := []) (lenOf pd_3 rfl) rfl (by show 2 * 0 + _ ≤ _; exact Nat.le_of_eq rfl) (hb hby d12_13) (fun _ _ => ⟨rfl, e0, (by decide : 0 + 1 ≤ _), (by decide : 0 + 4 ≤ _)⟩)
    dsimp only [Pt.U, Pt.locs, Pt.cells, Pt.slots] at X4 l4 y4 z4 st4 hQ4
    subst l4 y4 z4
    obtain ⟨x4, rfl, Nq4, Kq4⟩ := hQ4
    have N4 := Fr.app N0 Nq4
    have Z5 : n0 ≤ T4.heap.size := Nat.le_trans Z0 Kq4.1
    have K6 : Keep h0 T4.heap [] := (Keep.refl h0 []).trans Kq4 all0
    have pre7 : ∀ t, Steps p.tables e below (T4.setTop (mkF m 16 #[.val (.ref ar), .val (.int p1), .val (.int p2)] [(.ref x4)])) t → Steps p.tables e below (s₁.setTop (entryFrame m #[(.ref ar), (.int p1), (.int p2)] 3)) t := fun t k => by
      refine pre1 t ?_
      show Steps p.tables e below (s₁.setTop (mkF m 1 #[.val (.ref ar), .val (.int p1), .val (.int p2)] [(.int p1)])) _
      refine XS.ifNo X0.here hx rfl (hb hby d12_1) rfl ((if0 _ _).trans (teq hc1_2).2) ?_
      show Steps p.tables e below (s₁.setTop (mkF m 4 #[.val (.ref ar), .val (.int p1), .val (.int p2)] [])) _
      refine XS.iloadN X0.here hx rfl (hb hby d12_4) rfl ?_
      show Steps p.tables e below (s₁.setTop (mkF m 5 #[.val (.ref ar), .val (.int p1), .val (.int p2)] [(.int p2)])) _
      refine XS.aloadN X0.here hx rfl (hb hby d12_5) rfl rfl ?_
      show Steps p.tables e below (s₁.setTop (mkF m 6 #[.val (.ref ar), .val (.int p1), .val (.int p2)] [(.ref ar), (.int p2)])) _
      refine X0.arraylength hx (by rw [e0]; exact Ar3.1) (State.isArrayOf_alike hZ.alike Ar3.2.1) (g := (mkF m 6 #[.val (.ref ar), .val (.int p1), .val (.int p2)] [(.ref ar), (.int p2)])) rfl rfl (hb hby d12_6) _ ?_
      rw [len_of Sz3 Nz3]
      show Steps p.tables e below (s₁.setTop (mkF m 7 #[.val (.ref ar), .val (.int p1), .val (.int p2)] [(.int z), (.int p2)])) _
      refine XS.icmpNo X0.here hx rfl (hb hby d12_7) rfl (feq (hne : ¬ (p2 = z))).1 ?_
      show Steps p.tables e below (s₁.setTop (mkF m 10 #[.val (.ref ar), .val (.int p1), .val (.int p2)] [])) _
      refine XS.aloadN X0.here hx rfl (hb hby d12_10) rfl rfl ?_
      show Steps p.tables e below (s₁.setTop (mkF m 11 #[.val (.ref ar), .val (.int p1), .val (.int p2)] [(.ref ar)])) _
      refine XS.iloadN X0.here hx rfl (hb hby d12_11) rfl ?_
      show Steps p.tables e below (s₁.setTop (mkF m 12 #[.val (.ref ar), .val (.int p1), .val (.int p2)] [(.int p1), (.ref ar)])) _
      refine XS.iloadN X0.here hx rfl (hb hby d12_12) rfl ?_
      show Steps p.tables e below (s₁.setTop (mkF m 13 #[.val (.ref ar), .val (.int p1), .val (.int p2)] [(.int p2), (.int p1), (.ref ar)])) _
      refine st4 _ ?_
      exact k
    obtain ⟨fs, hrq, hrun, hended, hW, hsame⟩ := X4.leave (v := some (.ref x4)) (fun h => by rw [Bd.returns] at h; cases h)
    refine ⟨_, _, pre7 _ ?_, hrun, hended, _, _, rfl, ?_, ⟨_, rfl⟩, hW, hsame.mono (by decide) (by decide)⟩
    · show Steps p.tables e below (T4.setTop (mkF m 16 #[.val (.ref ar), .val (.int p1), .val (.int p2)] [(.ref x4)])) _
      exact retOut X4 hx Bd.returns rfl (Or.inr (Or.inr (Or.inr (Or.inr ⟨rfl, rfl, rfl⟩)))) (hb hby d12_16) hrq
    · show Qcr Z ar p1 p2 kk z vs dv h0 n0 _ T4.heap _
      exact ⟨_, rfl, N4, K6⟩
  · obtain ⟨_, _, ⟨T8, L8, k8, n8⟩, -, X8, ⟨Lc8, hQ8, l8, y8, z8⟩, st8⟩ := Jvm.LawKit.callS X0 hx (y := (⟨"java/util/Arrays", "copyOfRangeByte", "([BII)[B"⟩ : MethodName)) hown (mvT hZ (hw _ (List.mem_of_getElem? (i := 79) rfl))) (mvT hZ (hw _ (List.mem_of_getElem? (i := 80) rfl))) (mvT hZ (hw _ (List.mem_of_getElem? (i := 77) rfl))) (mvT hZ (hw _ (List.mem_of_getElem? (i := 81) rfl))) (by decide) (backOf (W := 0) (rmcrb l Z a0 hw [] ar p1 p2 kk z vs dv h0 n0 Z0 V_ar hB) hZ (hw _ (List.mem_of_getElem? (i := 81) rfl)) (hw _ (List.mem_of_getElem? (i := 77) rfl)) (by decide) (by decide)) (g := (mkF m 13 #[.val (.ref ar), .val (.int p1), .val (.int p2)] [(.int p2), (.int p1), (.ref ar)])) rfl (by rw [hml]; rfl) (argsL := [(.ref ar), (.int p1), (.int p2)]) (rest := []) (lenOf pd_3 rfl) rfl (by show 2 * 0 + _ ≤ _; exact Nat.le_of_eq rfl) (hb hby d12_13) (fun _ _ => ⟨rfl, e0, (by decide : 0 + 1 ≤ _), (by decide : 0 + 4 ≤ _)⟩)
    dsimp only [Pt.U, Pt.locs, Pt.cells, Pt.slots] at X8 l8 y8 z8 st8 hQ8
    subst l8 y8 z8
    obtain ⟨x8, rfl, Nq8, Kq8⟩ := hQ8
    have N8 := Fr.app N0 Nq8
    have Z9 : n0 ≤ T8.heap.size := Nat.le_trans Z0 Kq8.1
    have K10 : Keep h0 T8.heap [] := (Keep.refl h0 []).trans Kq8 all0
    have pre11 : ∀ t, Steps p.tables e below (T8.setTop (mkF m 16 #[.val (.ref ar), .val (.int p1), .val (.int p2)] [(.ref x8)])) t → Steps p.tables e below (s₁.setTop (entryFrame m #[(.ref ar), (.int p1), (.int p2)] 3)) t := fun t k => by
      refine pre1 t ?_
      show Steps p.tables e below (s₁.setTop (mkF m 1 #[.val (.ref ar), .val (.int p1), .val (.int p2)] [(.int p1)])) _
      refine XS.ifYes X0.here hx rfl (pc0 := 1) (pc' := 10) rfl (hb hby d12_1) rfl ((if0 _ _).trans (feq hc1_2).2) (by decide) (by decide) ?_
      show Steps p.tables e below (s₁.setTop (mkF m 10 #[.val (.ref ar), .val (.int p1), .val (.int p2)] [])) _
      refine XS.aloadN X0.here hx rfl (hb hby d12_10) rfl rfl ?_
      show Steps p.tables e below (s₁.setTop (mkF m 11 #[.val (.ref ar), .val (.int p1), .val (.int p2)] [(.ref ar)])) _
      refine XS.iloadN X0.here hx rfl (hb hby d12_11) rfl ?_
      show Steps p.tables e below (s₁.setTop (mkF m 12 #[.val (.ref ar), .val (.int p1), .val (.int p2)] [(.int p1), (.ref ar)])) _
      refine XS.iloadN X0.here hx rfl (hb hby d12_12) rfl ?_
      show Steps p.tables e below (s₁.setTop (mkF m 13 #[.val (.ref ar), .val (.int p1), .val (.int p2)] [(.int p2), (.int p1), (.ref ar)])) _
      refine st8 _ ?_
      exact k
    obtain ⟨fs, hrq, hrun, hended, hW, hsame⟩ := X8.leave (v := some (.ref x8)) (fun h => by rw [Bd.returns] at h; cases h)
    refine ⟨_, _, pre11 _ ?_, hrun, hended, _, _, rfl, ?_, ⟨_, rfl⟩, hW, hsame.mono (by decide) (by decide)⟩
    · show Steps p.tables e below (T8.setTop (mkF m 16 #[.val (.ref ar), .val (.int p1), .val (.int p2)] [(.ref x8)])) _
      exact retOut X8 hx Bd.returns rfl (Or.inr (Or.inr (Or.inr (Or.inr ⟨rfl, rfl, rfl⟩)))) (hb hby d12_16) hrq
    · show Qcr Z ar p1 p2 kk z vs dv h0 n0 _ T8.heap _
      exact ⟨_, rfl, N8, K10⟩
theorem d17_0 : decode jdk_65_method_121_code 0 = .ok (.iload_n 1, 1) := by decide +kernel
theorem d17_1 : decode jdk_65_method_121_code 1 = .ok (.aload_n 0, 1) := by decide +kernel
theorem d17_2 : decode jdk_65_method_121_code 2 = .ok (.arraylength, 1) := by decide +kernel
theorem d17_3 : decode jdk_65_method_121_code 3 = .ok (.if_icmp .ne 11, 3) := by decide +kernel
theorem d17_14 : decode jdk_65_method_121_code 14 = .ok (.iload_n 1, 1) := by decide +kernel
theorem d17_15 : decode jdk_65_method_121_code 15 = .ok (.newarray .byte, 2) := by decide +kernel
theorem d17_17 : decode jdk_65_method_121_code 17 = .ok (.astore_n 2, 1) := by decide +kernel
theorem d17_18 : decode jdk_65_method_121_code 18 = .ok (.aload_n 0, 1) := by decide +kernel
theorem d17_19 : decode jdk_65_method_121_code 19 = .ok (.iconst 0, 1) := by decide +kernel
theorem d17_20 : decode jdk_65_method_121_code 20 = .ok (.aload_n 2, 1) := by decide +kernel
theorem d17_21 : decode jdk_65_method_121_code 21 = .ok (.iconst 0, 1) := by decide +kernel
theorem d17_22 : decode jdk_65_method_121_code 22 = .ok (.aload_n 0, 1) := by decide +kernel
theorem d17_23 : decode jdk_65_method_121_code 23 = .ok (.arraylength, 1) := by decide +kernel
theorem d17_24 : decode jdk_65_method_121_code 24 = .ok (.iload_n 1, 1) := by decide +kernel
theorem d17_25 : decode jdk_65_method_121_code 25 = .ok (.invokestatic 304, 3) := by decide +kernel
theorem d17_28 : decode jdk_65_method_121_code 28 = .ok (.invokestatic 150, 3) := by decide +kernel
theorem d17_31 : decode jdk_65_method_121_code 31 = .ok (.aload_n 2, 1) := by decide +kernel
theorem d17_32 : decode jdk_65_method_121_code 32 = .ok (.areturn, 1) := by decide +kernel
theorem ef_rmcoN (m : MethodId) (x0 : Addr) (x1 : Int32) : entryFrame m #[(.ref x0), (.int x1)] 3 = mkF m 0 #[.val (.ref x0), .val (.int x1), .unset] [] := by first | (simp [entryFrame, mkF, argsToLocals, Value.category]; done) | rfl
def QcoN (Z : State) (ln : Addr) (p1 : Int32) (kl : ClassId) (h0 : Heap) (n0 : Nat) (v : Option Value) (h : Heap) (L : List Loc) : Prop := ∃ (ar : Addr) (kk : ClassId), v = some (.ref ar) ∧ Fr n0 L ∧ Keep h0 h [] ∧ h0.size ≤ ar ∧ Arv Z h ar kk .byte p1 [(.int (0 : Int32)), (.int (0 : Int32)), (.int (0 : Int32)), (.int (0 : Int32))] (.int (0 : Int32)) ∧ Exa Z h ar "[B"
set_option maxRecDepth 65536 in
set_option maxHeartbeats 40000000 in
theorem rmcoN (l : Launch) (Z : State) (a0 : Array Value) (hw : ∀ d ∈ tables_1, d.before a0 Z = true) (ws : List Jvm.Cond) (ln : Addr) (p1 : Int32) (kl : ClassId) (h0 : Heap) (n0 : Nat) (Z0 : n0 ≤ h0.size) (V_ln : Arv Z h0 ln kl .byte (0 : Int32) [] (.int (0 : Int32))) (hp : 0 < p1.toInt ∧ p1.toInt ≤ 4) :
    MetFree l (⟨"java/util/Arrays", "copyOf", "([BI)[B"⟩ : MethodName) (head1 (Jvm.Cond.code (⟨"java/util/Arrays", "copyOf", "([BI)[B"⟩ : MethodName) jdk_65_method_121_code 3 (some (.array .byte)) :: ws) ({ frames := 1, cells := 1, slots := 4, locals := 18 } : Room)) (fun a U => a = #[(.ref ln), (.int p1)] ∧ Z.Warmed39 U.vm ∧ U.heap = h0) (fun _ _ _ _ _ => True) (fun _ U o U' => ∃ v L, o = .returned v ∧ QcoN Z ln p1 kl h0 n0 v U'.heap L ∧ FrameEnd U o U' L ({ frames := 1, cells := 1, slots := 4, locals := 18 } : Room).cells ({ frames := 1, cells := 1, slots := 4, locals := 18 } : Room).slots) := by
  refine MetFree.of_bodySF (plainFor_of_name pn_2) hisR ?_
  intro p e s0 m args below meth c s₁ Bd hml0 hP hK
  obtain ⟨rfl, hZ, hh⟩ := hP
  have hx := Bd.exec
  have hby := Bd.bytes
  have hml : c.maxLocals = 3 := hml0
  have hown : s0.vm.findClass "java/util/Arrays" = some m.cls := findClass_of_methodNamed Bd.named
  have hnm := (name_of_methodNamed Bd.named Bd.method).1
  have X0 : Stand p l e ({ frames := 1, cells := 1, slots := 4, locals := 18 } : Room) s0 m #[(.ref ln), (.int p1)] below meth c s₁ [] 0 0 := Stand.of_body Bd
  have e0 : s₁.heap = h0 := by rw [← hh, Bd.state]; rfl
  have N0 := Fr.nil n0
  have pre0 : ∀ t, Steps p.tables e below (s₁.setTop (mkF m 0 #[.val (.ref ln), .val (.int p1), .unset] [])) t → Steps p.tables e below (s₁.setTop (entryFrame m #[(.ref ln), (.int p1)] 3)) t := fun t k => castTop (ef_rmcoN m ln p1) k
  obtain ⟨cl1, Ar1, -, Sz1, Nz1, -, -⟩ := id V_ln
  obtain ⟨T2, h2, k2, X2, e2, E2, A2, Ea2, st2⟩ := newPE X0 hx hZ (hw _ (List.mem_of_getElem? (i := 5) rfl)) e0 (g := (mkF m 15 #[.val (.ref ln), .val (.int p1), .unset] [(.int p1)])) rfl (hb hby d17_15) rfl (own_c2 hp) (cap := 4) (own_c3 hp) (by decide) (by decide) (by decide) (ad := "[B") (by decide)
  obtain ⟨b2, g2⟩ : ∃ z, z = h0.size := ⟨_, rfl⟩
  rw [← g2] at A2 Ea2 st2
  have g_b2 : n0 ≤ b2 := Nat.le_trans Z0 (Nat.le_of_eq g2.symm)
  have sz_b2 : h0.size ≤ b2 := Nat.le_trans (Keep.refl h0 []).1 (Nat.le_of_eq g2.symm)
  have Z3 : n0 ≤ h2.size := Nat.le_trans Z0 E2.1
  have K2 : Keep h0 h2 [] := (Keep.refl h0 []).ext E2
  have V2 : Arv Z h2 b2 k2 .byte p1 [(.int (0 : Int32)), (.int (0 : Int32)), (.int (0 : Int32)), (.int (0 : Int32))] (.int (0 : Int32)) := (Arv.new A2 (own_c2 hp)).pad (pad_rep [] (.int (0 : Int32)) 4)
  have c4 : Arv Z h2 ln kl .byte (0 : Int32) [] (.int (0 : Int32)) := (V_ln.ext E2)
  obtain ⟨cl5, Ar5, -, Sz5, Nz5, -, -⟩ := id c4
  obtain ⟨_, _, ⟨T6, L6, k6, n6⟩, -, X6, ⟨Lc6, hQ6, l6, y6, z6⟩, st6⟩ := Jvm.LawKit.callS X2 hx (y := (⟨"java/lang/Math", "min", "(II)I"⟩ : MethodName)) hown (mvT hZ (hw _ (List.mem_of_getElem? (i := 85) rfl))) (mvT hZ (hw _ (List.mem_of_getElem? (i := 60) rfl))) (mvT hZ (hw _ (List.mem_of_getElem? (i := 61) rfl))) (mvT hZ (hw _ (List.mem_of_getElem? (i := 62) rfl))) (by decide) (backOf (W := 4) (rmmin l Z a0 hw [] (0 : Int32) p1 (0 : Int32) h2 n0 Z3 (own_cn hp)) hZ (hw _ (List.mem_of_getElem? (i := 62) rfl)) (hw _ (List.mem_of_getElem? (i := 61) rfl)) (by decide) (by decide)) (g := (mkF m 25 #[.val (.ref ln), .val (.int p1), .val (.ref b2)] [(.int p1), (.int (0 : Int32)), (.int (0 : Int32)), (.ref b2), (.int (0 : Int32)), (.ref ln)])) rfl (by rw [hml]; rfl) (argsL := [(.int (0 : Int32)), (.int p1)]) (rest := [(.int (0 : Int32)), (.ref b2), (.int (0 : Int32)), (.ref ln)]) (lenOf pd_2 rfl) rfl (by show 2 * 0 + _ ≤ _; exact Nat.le_of_eq rfl) (hb hby d17_25) (fun _ _ => ⟨rfl, e2, (by decide : 1 + 0 ≤ _), (by decide : 4 + 0 ≤ _)⟩)
  dsimp only [Pt.U, Pt.locs, Pt.cells, Pt.slots] at X6 l6 y6 z6 st6 hQ6
  subst l6 y6 z6
  obtain ⟨rfl, Nq6, hh6⟩ := hQ6
  have N6 := Fr.app N0 Nq6
  have e6 : T6.heap = h2 := hh6
  obtain ⟨T7, h7, Lc7, X7, e7, N7, Kc7, Vc7, st7⟩ := cpA X6 hx hZ hown (hw _ (List.mem_of_getElem? (i := 86) rfl)) (hw _ (List.mem_of_getElem? (i := 89) rfl)) (hw _ (List.mem_of_getElem? (i := 87) rfl)) (hw _ (List.mem_of_getElem? (i := 88) rfl)) e6 c4 V2 (Or.inl ⟨rfl, rfl⟩) (by decide) (by decide) (by decide) (by decide) (Nat.zero_le _) rfl (by decide) N6 g_b2 (g := (mkF m 28 #[.val (.ref ln), .val (.int p1), .val (.ref b2)] [(.int (0 : Int32)), (.int (0 : Int32)), (.ref b2), (.int (0 : Int32)), (.ref ln)])) rfl (by rw [hml]; rfl) rfl (hb hby d17_28) (by decide) (W := 0) (by show 2 * 0 + _ ≤ _; exact Nat.le_of_eq rfl) (by decide)
  have Z8 : n0 ≤ h7.size := Nat.le_trans Z3 Kc7.1
  have K9 : Keep h0 h7 [] := K2.trans Kc7 (allS (Or.inr sz_b2) all0)
  have Vd7 : Arv Z h7 b2 k2 .byte p1 [(.int (0 : Int32)), (.int (0 : Int32)), (.int (0 : Int32)), (.int (0 : Int32))] (.int (0 : Int32)) := Vc7
  have pre10 : ∀ t, Steps p.tables e below (T7.setTop (mkF m 32 #[.val (.ref ln), .val (.int p1), .val (.ref b2)] [(.ref b2)])) t → Steps p.tables e below (s₁.setTop (entryFrame m #[(.ref ln), (.int p1)] 3)) t := fun t k => by
    refine pre0 t ?_
    show Steps p.tables e below (s₁.setTop (mkF m 0 #[.val (.ref ln), .val (.int p1), .unset] [])) _
    refine XS.iloadN X0.here hx rfl (hb hby d17_0) rfl ?_
    show Steps p.tables e below (s₁.setTop (mkF m 1 #[.val (.ref ln), .val (.int p1), .unset] [(.int p1)])) _
    refine XS.aloadN X0.here hx rfl (hb hby d17_1) rfl rfl ?_
    show Steps p.tables e below (s₁.setTop (mkF m 2 #[.val (.ref ln), .val (.int p1), .unset] [(.ref ln), (.int p1)])) _
    refine X0.arraylength hx (by rw [e0]; exact Ar1.1) (State.isArrayOf_alike hZ.alike Ar1.2.1) (g := (mkF m 2 #[.val (.ref ln), .val (.int p1), .unset] [(.ref ln), (.int p1)])) rfl rfl (hb hby d17_2) _ ?_
    rw [len_of Sz1 Nz1]
    show Steps p.tables e below (s₁.setTop (mkF m 3 #[.val (.ref ln), .val (.int p1), .unset] [(.int (0 : Int32)), (.int p1)])) _
    refine XS.icmpYes X0.here hx rfl (pc0 := 3) (pc' := 14) rfl (hb hby d17_3) rfl (feq (own_c1 hp : ¬ (p1 = (0 : Int32)))).2 (by decide) (by decide) ?_
    show Steps p.tables e below (s₁.setTop (mkF m 14 #[.val (.ref ln), .val (.int p1), .unset] [])) _
    refine XS.iloadN X0.here hx rfl (hb hby d17_14) rfl ?_
    show Steps p.tables e below (s₁.setTop (mkF m 15 #[.val (.ref ln), .val (.int p1), .unset] [(.int p1)])) _
    refine st2 _ ?_
    show Steps p.tables e below (T2.setTop (mkF m 17 #[.val (.ref ln), .val (.int p1), .unset] [(.ref b2)])) _
    refine XS.astoreN X2.here hx rfl (hb hby d17_17) rfl rfl (l' := #[.val (.ref ln), .val (.int p1), .val (.ref b2)]) rfl ?_
    show Steps p.tables e below (T2.setTop (mkF m 18 #[.val (.ref ln), .val (.int p1), .val (.ref b2)] [])) _
    refine XS.aloadN X2.here hx rfl (hb hby d17_18) rfl rfl ?_
    show Steps p.tables e below (T2.setTop (mkF m 19 #[.val (.ref ln), .val (.int p1), .val (.ref b2)] [(.ref ln)])) _
    refine XS.iconst X2.here hx rfl (hb hby d17_19) ?_
    show Steps p.tables e below (T2.setTop (mkF m 20 #[.val (.ref ln), .val (.int p1), .val (.ref b2)] [(.int (0 : Int32)), (.ref ln)])) _
    refine XS.aloadN X2.here hx rfl (hb hby d17_20) rfl rfl ?_
    show Steps p.tables e below (T2.setTop (mkF m 21 #[.val (.ref ln), .val (.int p1), .val (.ref b2)] [(.ref b2), (.int (0 : Int32)), (.ref ln)])) _
    refine XS.iconst X2.here hx rfl (hb hby d17_21) ?_
    show Steps p.tables e below (T2.setTop (mkF m 22 #[.val (.ref ln), .val (.int p1), .val (.ref b2)] [(.int (0 : Int32)), (.ref b2), (.int (0 : Int32)), (.ref ln)])) _
    refine XS.aloadN X2.here hx rfl (hb hby d17_22) rfl rfl ?_
    show Steps p.tables e below (T2.setTop (mkF m 23 #[.val (.ref ln), .val (.int p1), .val (.ref b2)] [(.ref ln), (.int (0 : Int32)), (.ref b2), (.int (0 : Int32)), (.ref ln)])) _
    refine X2.arraylength hx (by rw [e2]; exact Ar5.1) (State.isArrayOf_alike hZ.alike Ar5.2.1) (g := (mkF m 23 #[.val (.ref ln), .val (.int p1), .val (.ref b2)] [(.ref ln), (.int (0 : Int32)), (.ref b2), (.int (0 : Int32)), (.ref ln)])) rfl rfl (hb hby d17_23) _ ?_
    rw [len_of Sz5 Nz5]
    show Steps p.tables e below (T2.setTop (mkF m 24 #[.val (.ref ln), .val (.int p1), .val (.ref b2)] [(.int (0 : Int32)), (.int (0 : Int32)), (.ref b2), (.int (0 : Int32)), (.ref ln)])) _
    refine XS.iloadN X2.here hx rfl (hb hby d17_24) rfl ?_
    show Steps p.tables e below (T2.setTop (mkF m 25 #[.val (.ref ln), .val (.int p1), .val (.ref b2)] [(.int p1), (.int (0 : Int32)), (.int (0 : Int32)), (.ref b2), (.int (0 : Int32)), (.ref ln)])) _
    refine st6 _ ?_
    show Steps p.tables e below (T6.setTop (mkF m 28 #[.val (.ref ln), .val (.int p1), .val (.ref b2)] [(.int (0 : Int32)), (.int (0 : Int32)), (.ref b2), (.int (0 : Int32)), (.ref ln)])) _
    refine st7 _ ?_
    show Steps p.tables e below (T7.setTop (mkF m 31 #[.val (.ref ln), .val (.int p1), .val (.ref b2)] [])) _
    refine XS.aloadN X7.here hx rfl (hb hby d17_31) rfl rfl ?_
    exact k
  obtain ⟨fs, hrq, hrun, hended, hW, hsame⟩ := X7.leave (v := some (.ref b2)) (fun h => by rw [Bd.returns] at h; cases h)
  refine ⟨_, _, pre10 _ ?_, hrun, hended, _, _, rfl, ?_, ⟨_, rfl⟩, hW, hsame.mono (by decide) (by decide)⟩
  · show Steps p.tables e below (T7.setTop (mkF m 32 #[.val (.ref ln), .val (.int p1), .val (.ref b2)] [(.ref b2)])) _
    exact retOut X7 hx Bd.returns rfl (Or.inr (Or.inr (Or.inr (Or.inr ⟨rfl, rfl, rfl⟩)))) (hb hby d17_32) hrq
  · show QcoN Z ln p1 kl h0 n0 _ T7.heap _
    rw [e7]
    have c11 : Exa Z h7 b2 "[B" := (Ea2.keep Kc7)
    exact ⟨_, _, rfl, N7, K9, sz_b2, Vd7, c11⟩
theorem d17_6 : decode jdk_65_method_121_code 6 = .ok (.aload_n 0, 1) := by decide +kernel
theorem d17_7 : decode jdk_65_method_121_code 7 = .ok (.invokevirtual 310, 3) := by decide +kernel
theorem d17_10 : decode jdk_65_method_121_code 10 = .ok (.checkcast 311, 3) := by decide +kernel
theorem d17_13 : decode jdk_65_method_121_code 13 = .ok (.areturn, 1) := by decide +kernel
theorem ef_rmcoC (m : MethodId) (x0 : Addr) (x1 : Int32) : entryFrame m #[(.ref x0), (.int x1)] 3 = mkF m 0 #[.val (.ref x0), .val (.int x1), .unset] [] := by first | (simp [entryFrame, mkF, argsToLocals, Value.category]; done) | rfl
def QcoC (Z : State) (ln : Addr) (p1 : Int32) (kl : ClassId) (vs : List Value) (dv : Value) (h0 : Heap) (n0 : Nat) (v : Option Value) (h : Heap) (L : List Loc) : Prop := ∃ x : Addr, v = some (.ref x) ∧ Fr n0 L ∧ Keep h0 h []
set_option maxRecDepth 65536 in
set_option maxHeartbeats 40000000 in
theorem rmcoC (l : Launch) (Z : State) (a0 : Array Value) (hw : ∀ d ∈ tables_1, d.before a0 Z = true) (ws : List Jvm.Cond) (ln : Addr) (p1 : Int32) (kl : ClassId) (vs : List Value) (dv : Value) (h0 : Heap) (n0 : Nat) (Z0 : n0 ≤ h0.size) (V_ln : Arv Z h0 ln kl .byte p1 vs dv) (E_ln : Exa Z h0 ln "[B") (hp : p1.toNatClampNeg ≤ 4) :
    MetFree l (⟨"java/util/Arrays", "copyOf", "([BI)[B"⟩ : MethodName) (head1 (Jvm.Cond.code (⟨"java/util/Arrays", "copyOf", "([BI)[B"⟩ : MethodName) jdk_65_method_121_code 3 (some (.array .byte)) :: ws) ({ frames := 1, cells := 1, slots := 4, locals := 14 } : Room)) (fun a U => a = #[(.ref ln), (.int p1)] ∧ Z.Warmed39 U.vm ∧ U.heap = h0) (fun _ _ _ _ _ => True) (fun _ U o U' => ∃ v L, o = .returned v ∧ QcoC Z ln p1 kl vs dv h0 n0 v U'.heap L ∧ FrameEnd U o U' L ({ frames := 1, cells := 1, slots := 4, locals := 14 } : Room).cells ({ frames := 1, cells := 1, slots := 4, locals := 14 } : Room).slots) := by
  refine MetFree.of_bodySF (plainFor_of_name pn_2) hisR ?_
  intro p e s0 m args below meth c s₁ Bd hml0 hP hK
  obtain ⟨rfl, hZ, hh⟩ := hP
  have hx := Bd.exec
  have hby := Bd.bytes
  have hml : c.maxLocals = 3 := hml0
  have hown : s0.vm.findClass "java/util/Arrays" = some m.cls := findClass_of_methodNamed Bd.named
  have hnm := (name_of_methodNamed Bd.named Bd.method).1
  have X0 : Stand p l e ({ frames := 1, cells := 1, slots := 4, locals := 14 } : Room) s0 m #[(.ref ln), (.int p1)] below meth c s₁ [] 0 0 := Stand.of_body Bd
  have e0 : s₁.heap = h0 := by rw [← hh, Bd.state]; rfl
  have N0 := Fr.nil n0
  have pre0 : ∀ t, Steps p.tables e below (s₁.setTop (mkF m 0 #[.val (.ref ln), .val (.int p1), .unset] [])) t → Steps p.tables e below (s₁.setTop (entryFrame m #[(.ref ln), (.int p1)] 3)) t := fun t k => castTop (ef_rmcoC m ln p1) k
  obtain ⟨cl1, Ar1, -, Sz1, Nz1, -, -⟩ := id V_ln
  obtain ⟨T2, h2, X2, e2, E2, Ah2, Ea2, st2⟩ := cloneH X0 hx hZ hown (hw _ (List.mem_of_getElem? (i := 105) rfl)) (hw _ (List.mem_of_getElem? (i := 106) rfl)) (hw _ (List.mem_of_getElem? (i := 110) rfl)) (hw _ (List.mem_of_getElem? (i := 108) rfl)) (hw _ (List.mem_of_getElem? (i := 109) rfl)) (hw _ (List.mem_of_getElem? (i := 111) rfl)) e0 (Arv.arh V_ln) E_ln (g := (mkF m 7 #[.val (.ref ln), .val (.int p1), .unset] [(.ref ln)])) rfl (by rw [hml]; rfl) rfl (hb hby d17_7) (by decide) (W := 0) (cap := 4) (by show 2 * 0 + _ ≤ _; exact Nat.le_of_eq rfl) (by decide) hp (by decide) (by decide)
  obtain ⟨b2, g2⟩ : ∃ z, z = h0.size := ⟨_, rfl⟩
  rw [← g2] at Ea2 st2
  have g_b2 : n0 ≤ b2 := Nat.le_trans Z0 (Nat.le_of_eq g2.symm)
  have sz_b2 : h0.size ≤ b2 := Nat.le_trans (Keep.refl h0 []).1 (Nat.le_of_eq g2.symm)
  have Z3 : n0 ≤ h2.size := Nat.le_trans Z0 E2.1
  have K2 : Keep h0 h2 [] := (Keep.refl h0 []).ext E2
  obtain ⟨T4, X4, e4, st4⟩ := castY X2 hx hZ hown (hw _ (List.mem_of_getElem? (i := 112) rfl)) e2 (Ins.self Ea2) (g := (mkF m 10 #[.val (.ref ln), .val (.int p1), .unset] [(.ref b2)])) rfl rfl (hb hby d17_10)
  have pre5 : ∀ t, Steps p.tables e below (T4.setTop (mkF m 13 #[.val (.ref ln), .val (.int p1), .unset] [(.ref b2)])) t → Steps p.tables e below (s₁.setTop (entryFrame m #[(.ref ln), (.int p1)] 3)) t := fun t k => by
    refine pre0 t ?_
    show Steps p.tables e below (s₁.setTop (mkF m 0 #[.val (.ref ln), .val (.int p1), .unset] [])) _
    refine XS.iloadN X0.here hx rfl (hb hby d17_0) rfl ?_
    show Steps p.tables e below (s₁.setTop (mkF m 1 #[.val (.ref ln), .val (.int p1), .unset] [(.int p1)])) _
    refine XS.aloadN X0.here hx rfl (hb hby d17_1) rfl rfl ?_
    show Steps p.tables e below (s₁.setTop (mkF m 2 #[.val (.ref ln), .val (.int p1), .unset] [(.ref ln), (.int p1)])) _
    refine X0.arraylength hx (by rw [e0]; exact Ar1.1) (State.isArrayOf_alike hZ.alike Ar1.2.1) (g := (mkF m 2 #[.val (.ref ln), .val (.int p1), .unset] [(.ref ln), (.int p1)])) rfl rfl (hb hby d17_2) _ ?_
    rw [len_of Sz1 Nz1]
    show Steps p.tables e below (s₁.setTop (mkF m 3 #[.val (.ref ln), .val (.int p1), .unset] [(.int p1), (.int p1)])) _
    refine XS.icmpNo X0.here hx rfl (hb hby d17_3) rfl (teq (rfl : p1 = p1)).2 ?_
    show Steps p.tables e below (s₁.setTop (mkF m 6 #[.val (.ref ln), .val (.int p1), .unset] [])) _
    refine XS.aloadN X0.here hx rfl (hb hby d17_6) rfl rfl ?_
    show Steps p.tables e below (s₁.setTop (mkF m 7 #[.val (.ref ln), .val (.int p1), .unset] [(.ref ln)])) _
    refine st2 _ ?_
    show Steps p.tables e below (T2.setTop (mkF m 10 #[.val (.ref ln), .val (.int p1), .unset] [(.ref b2)])) _
    refine st4 _ ?_
    exact k
  obtain ⟨fs, hrq, hrun, hended, hW, hsame⟩ := X4.leave (v := some (.ref b2)) (fun h => by rw [Bd.returns] at h; cases h)
  refine ⟨_, _, pre5 _ ?_, hrun, hended, _, _, rfl, ?_, ⟨_, rfl⟩, hW, hsame.mono (by decide) (by decide)⟩
  · show Steps p.tables e below (T4.setTop (mkF m 13 #[.val (.ref ln), .val (.int p1), .unset] [(.ref b2)])) _
    exact retOut X4 hx Bd.returns rfl (Or.inr (Or.inr (Or.inr (Or.inr ⟨rfl, rfl, rfl⟩)))) (hb hby d17_13) hrq
  · show QcoC Z ln p1 kl vs dv h0 n0 _ T4.heap _
    rw [e4]
    exact ⟨_, rfl, N0, K2⟩
theorem pd_4 : parseMethodDescriptor "([BI)[B" = some ⟨[(.array .byte), .int], some (.array .byte)⟩ := by decide +kernel
theorem d15_0 : decode prog_163_method_9_code 0 = .ok (.iload_n 1, 1) := by decide +kernel
theorem d15_1 : decode prog_163_method_9_code 1 = .ok (.aload_n 0, 1) := by decide +kernel
theorem d15_2 : decode prog_163_method_9_code 2 = .ok (.getfield 66, 3) := by decide +kernel
theorem d15_5 : decode prog_163_method_9_code 5 = .ok (.if_icmp .le 77, 3) := by decide +kernel
theorem d15_82 : decode prog_163_method_9_code 82 = .ok (.aload_n 0, 1) := by decide +kernel
theorem d15_83 : decode prog_163_method_9_code 83 = .ok (.aload_n 0, 1) := by decide +kernel
theorem d15_84 : decode prog_163_method_9_code 84 = .ok (.getfield 20, 3) := by decide +kernel
theorem d15_87 : decode prog_163_method_9_code 87 = .ok (.iload_n 1, 1) := by decide +kernel
theorem d15_88 : decode prog_163_method_9_code 88 = .ok (.iconst 2, 1) := by decide +kernel
theorem d15_89 : decode prog_163_method_9_code 89 = .ok (.aload_n 0, 1) := by decide +kernel
theorem d15_90 : decode prog_163_method_9_code 90 = .ok (.getfield 20, 3) := by decide +kernel
theorem d15_93 : decode prog_163_method_9_code 93 = .ok (.arraylength, 1) := by decide +kernel
theorem d15_94 : decode prog_163_method_9_code 94 = .ok (.imul, 1) := by decide +kernel
theorem d15_95 : decode prog_163_method_9_code 95 = .ok (.invokestatic 131, 3) := by decide +kernel
theorem d15_98 : decode prog_163_method_9_code 98 = .ok (.aload_n 0, 1) := by decide +kernel
theorem d15_99 : decode prog_163_method_9_code 99 = .ok (.getfield 66, 3) := by decide +kernel
theorem d15_102 : decode prog_163_method_9_code 102 = .ok (.invokestatic 106, 3) := by decide +kernel
theorem d15_105 : decode prog_163_method_9_code 105 = .ok (.invokestatic 133, 3) := by decide +kernel
theorem d15_108 : decode prog_163_method_9_code 108 = .ok (.putfield 20, 3) := by decide +kernel
theorem d15_111 : decode prog_163_method_9_code 111 = .ok (.return_, 1) := by decide +kernel
theorem ef_rmgrow (m : MethodId) (x0 : Addr) (x1 : Int32) : entryFrame m #[(.ref x0), (.int x1)] 4 = mkF m 0 #[.val (.ref x0), .val (.int x1), .unset, .unset] [] := by first | (simp [entryFrame, mkF, argsToLocals, Value.category]; done) | rfl
def Qgrow (Z : State) (ob : Addr) (p1 : Int32) (ln : Addr) (kl : ClassId) (h0 : Heap) (n0 : Nat) (v : Option Value) (h : Heap) (L : List Loc) : Prop := v = none ∧ Fr n0 L ∧ Keep h0 h [ob] ∧ Exa Z h ob "quorumkeep/store/Messages$Reader" ∧ (∃ (l2 : Addr) (k2 : ClassId), h0.size ≤ l2 ∧ Fld Z h ob "quorumkeep/store/Messages$Reader" "line" "[B" (.ref l2) ∧ Arv Z h l2 k2 .byte p1 [(.int (0 : Int32)), (.int (0 : Int32)), (.int (0 : Int32)), (.int (0 : Int32))] (.int (0 : Int32)) ∧ Exa Z h l2 "[B") ∧ (∀ {C n d : String} {u : Value}, Fld Z h0 ob C n d u → Jvm.RoadKit.slotOf Z C n d ≠ Jvm.RoadKit.slotOf Z "quorumkeep/store/Messages$Reader" "line" "[B" → Fld Z h ob C n d u)
set_option maxRecDepth 65536 in
set_option maxHeartbeats 40000000 in
theorem rmgrow (l : Launch) (Z : State) (a0 : Array Value) (hw : ∀ d ∈ tables_1, d.before a0 Z = true) (ws : List Jvm.Cond) (ob : Addr) (p1 : Int32) (ln : Addr) (kl : ClassId) (h0 : Heap) (n0 : Nat) (Z0 : n0 ≤ h0.size) (E_ob : Exa Z h0 ob "quorumkeep/store/Messages$Reader") (F_keepable : Fld Z h0 ob "quorumkeep/store/Messages$Reader" "keepable" "I" (.int (4194306 : Int32))) (F_line : Fld Z h0 ob "quorumkeep/store/Messages$Reader" "line" "[B" (.ref ln)) (V_ln : Arv Z h0 ln kl .byte (0 : Int32) [] (.int (0 : Int32))) (hp : 0 < p1.toInt ∧ p1.toInt ≤ 4) (g_ob : n0 ≤ ob) :
    MetFree l (⟨"quorumkeep/store/Messages$Reader", "grow", "(I)V"⟩ : MethodName) (head1 (Jvm.Cond.code (⟨"quorumkeep/store/Messages$Reader", "grow", "(I)V"⟩ : MethodName) prog_163_method_9_code 4 none :: ws) ({ frames := 2, cells := 1, slots := 4, locals := 33 } : Room)) (fun a U => a = #[(.ref ob), (.int p1)] ∧ Z.Warmed39 U.vm ∧ U.heap = h0) (fun _ _ _ _ _ => True) (fun _ U o U' => ∃ v L, o = .returned v ∧ Qgrow Z ob p1 ln kl h0 n0 v U'.heap L ∧ FrameEnd U o U' L ({ frames := 2, cells := 1, slots := 4, locals := 33 } : Room).cells ({ frames := 2, cells := 1, slots := 4, locals := 33 } : Room).slots) := by
  refine MetFree.of_bodySF (plainFor_of_name pn_1) hisR ?_
  intro p e s0 m args below meth c s₁ Bd hml0 hP hK
  obtain ⟨rfl, hZ, hh⟩ := hP
  have hx := Bd.exec
  have hby := Bd.bytes
  have hml : c.maxLocals = 4 := hml0
  have hown : s0.vm.findClass "quorumkeep/store/Messages$Reader" = some m.cls := findClass_of_methodNamed Bd.named
  have hnm := (name_of_methodNamed Bd.named Bd.method).1
  have X0 : Stand p l e ({ frames := 2, cells := 1, slots := 4, locals := 33 } : Room) s0 m #[(.ref ob), (.int p1)] below meth c s₁ [] 0 0 := Stand.of_body Bd
  have e0 : s₁.heap = h0 := by rw [← hh, Bd.state]; rfl
  have N0 := Fr.nil n0
  have pre0 : ∀ t, Steps p.tables e below (s₁.setTop (mkF m 0 #[.val (.ref ob), .val (.int p1), .unset, .unset] [])) t → Steps p.tables e below (s₁.setTop (entryFrame m #[(.ref ob), (.int p1)] 4)) t := fun t k => castTop (ef_rmgrow m ob p1) k
  have ne_ol : ob ≠ ln := own_ne_arv E_ob (hw _ (List.mem_of_getElem? (i := 7) rfl)) V_ln
  obtain ⟨T1, X1, e1, st1⟩ := getF X0 hx hZ hown (host := "") (Or.inl (hw _ (List.mem_of_getElem? (i := 53) rfl))) Via.refl e0 F_keepable (g := (mkF m 2 #[.val (.ref ob), .val (.int p1), .unset, .unset] [(.ref ob), (.int p1)])) rfl rfl (hb hby d15_2)
  obtain ⟨T2, X2, e2, st2⟩ := getF X1 hx hZ hown (host := "") (Or.inl (hw _ (List.mem_of_getElem? (i := 17) rfl))) Via.refl e1 F_line (g := (mkF m 84 #[.val (.ref ob), .val (.int p1), .unset, .unset] [(.ref ob), (.ref ob)])) rfl rfl (hb hby d15_84)
  obtain ⟨T3, X3, e3, st3⟩ := getF X2 hx hZ hown (host := "") (Or.inl (hw _ (List.mem_of_getElem? (i := 17) rfl))) Via.refl e2 F_line (g := (mkF m 90 #[.val (.ref ob), .val (.int p1), .unset, .unset] [(.ref ob), (.int (2 : Int32)), (.int p1), (.ref ln), (.ref ob)])) rfl rfl (hb hby d15_90)
  obtain ⟨cl4, Ar4, -, Sz4, Nz4, -, -⟩ := id V_ln
  obtain ⟨_, _, ⟨T5, L5, k5, n5⟩, -, X5, ⟨Lc5, hQ5, l5, y5, z5⟩, st5⟩ := Jvm.LawKit.callS X3 hx (y := (⟨"java/lang/Math", "max", "(II)I"⟩ : MethodName)) hown (mvT hZ (hw _ (List.mem_of_getElem? (i := 94) rfl))) (mvT hZ (hw _ (List.mem_of_getElem? (i := 95) rfl))) (mvT hZ (hw _ (List.mem_of_getElem? (i := 61) rfl))) (mvT hZ (hw _ (List.mem_of_getElem? (i := 96) rfl))) (by decide) (backOf (W := 2) (rmmax l Z a0 hw [] p1 ((2 : Int32) * (0 : Int32)) p1 h0 n0 Z0 (own_g1 hp)) hZ (hw _ (List.mem_of_getElem? (i := 96) rfl)) (hw _ (List.mem_of_getElem? (i := 61) rfl)) (by decide) (by decide)) (g := (mkF m 95 #[.val (.ref ob), .val (.int p1), .unset, .unset] [(.int ((2 : Int32) * (0 : Int32))), (.int p1), (.ref ln), (.ref ob)])) rfl (by rw [hml]; rfl) (argsL := [(.int p1), (.int ((2 : Int32) * (0 : Int32)))]) (rest := [(.ref ln), (.ref ob)]) (lenOf pd_2 rfl) rfl (by show 2 * 0 + _ ≤ _; exact Nat.le_of_eq rfl) (hb hby d15_95) (fun _ _ => ⟨rfl, e3, (by decide : 0 + 0 ≤ _), (by decide : 0 + 0 ≤ _)⟩)
  dsimp only [Pt.U, Pt.locs, Pt.cells, Pt.slots] at X5 l5 y5 z5 st5 hQ5
  subst l5 y5 z5
  obtain ⟨rfl, Nq5, hh5⟩ := hQ5
  have N5 := Fr.app N0 Nq5
  have e5 : T5.heap = h0 := hh5
  obtain ⟨T6, X6, e6, st6⟩ := getF X5 hx hZ hown (host := "") (Or.inl (hw _ (List.mem_of_getElem? (i := 53) rfl))) Via.refl e5 F_keepable (g := (mkF m 99 #[.val (.ref ob), .val (.int p1), .unset, .unset] [(.ref ob), (.int p1), (.ref ln), (.ref ob)])) rfl rfl (hb hby d15_99)
  obtain ⟨_, _, ⟨T7, L7, k7, n7⟩, -, X7, ⟨Lc7, hQ7, l7, y7, z7⟩, st7⟩ := Jvm.LawKit.callS X6 hx (y := (⟨"java/lang/Math", "min", "(II)I"⟩ : MethodName)) hown (mvT hZ (hw _ (List.mem_of_getElem? (i := 59) rfl))) (mvT hZ (hw _ (List.mem_of_getElem? (i := 60) rfl))) (mvT hZ (hw _ (List.mem_of_getElem? (i := 61) rfl))) (mvT hZ (hw _ (List.mem_of_getElem? (i := 62) rfl))) (by decide) (backOf (W := 2) (rmmin l Z a0 hw [] p1 (4194306 : Int32) p1 h0 n0 Z0 (own_g2 hp)) hZ (hw _ (List.mem_of_getElem? (i := 62) rfl)) (hw _ (List.mem_of_getElem? (i := 61) rfl)) (by decide) (by decide)) (g := (mkF m 102 #[.val (.ref ob), .val (.int p1), .unset, .unset] [(.int (4194306 : Int32)), (.int p1), (.ref ln), (.ref ob)])) rfl (by rw [hml]; rfl) (argsL := [(.int p1), (.int (4194306 : Int32))]) (rest := [(.ref ln), (.ref ob)]) (lenOf pd_2 rfl) rfl (by show 2 * 0 + _ ≤ _; exact Nat.le_of_eq rfl) (hb hby d15_102) (fun _ _ => ⟨rfl, e6, (by decide : 0 + 0 ≤ _), (by decide : 0 + 0 ≤ _)⟩)
  dsimp only [Pt.U, Pt.locs, Pt.cells, Pt.slots] at X7 l7 y7 z7 st7 hQ7
  subst l7 y7 z7
  obtain ⟨rfl, Nq7, hh7⟩ := hQ7
  have N7 := Fr.app N5 Nq7
  have e7 : T7.heap = h0 := hh7
  obtain ⟨_, _, ⟨T8, L8, k8, n8⟩, -, X8, ⟨Lc8, hQ8, l8, y8, z8⟩, st8⟩ := Jvm.LawKit.callS X7 hx (y := (⟨"java/util/Arrays", "copyOf", "([BI)[B"⟩ : MethodName)) hown (mvT hZ (hw _ (List.mem_of_getElem? (i := 97) rfl))) (mvT hZ (hw _ (List.mem_of_getElem? (i := 98) rfl))) (mvT hZ (hw _ (List.mem_of_getElem? (i := 77) rfl))) (mvT hZ (hw _ (List.mem_of_getElem? (i := 99) rfl))) (by decide) (backOf (W := 1) (rmcoN l Z a0 hw [] ln p1 kl h0 n0 Z0 V_ln hp) hZ (hw _ (List.mem_of_getElem? (i := 99) rfl)) (hw _ (List.mem_of_getElem? (i := 77) rfl)) (by decide) (by decide)) (g := (mkF m 105 #[.val (.ref ob), .val (.int p1), .unset, .unset] [(.int p1), (.ref ln), (.ref ob)])) rfl (by rw [hml]; rfl) (argsL := [(.ref ln), (.int p1)]) (rest := [(.ref ob)]) (lenOf pd_4 rfl) rfl (by show 2 * 0 + _ ≤ _; exact Nat.le_of_eq rfl) (hb hby d15_105) (fun _ _ => ⟨rfl, e7, (by decide : 0 + 1 ≤ _), (by decide : 0 + 4 ≤ _)⟩)
  dsimp only [Pt.U, Pt.locs, Pt.cells, Pt.slots] at X8 l8 y8 z8 st8 hQ8
  subst l8 y8 z8
  obtain ⟨ar8, kk8, rfl, Nq8, Kq8, hs8, Vq8, Ev8⟩ := hQ8
  have N8 := Fr.app N7 Nq8
  have Z9 : n0 ≤ T8.heap.size := Nat.le_trans Z0 Kq8.1
  have K10 : Keep h0 T8.heap [ob] := (Keep.refl h0 [ob]).trans Kq8 all0
  have g_ar8 : n0 ≤ ar8 := Nat.le_trans Z0 hs8
  have sz_ar8 : h0.size ≤ ar8 := Nat.le_trans (Keep.refl h0 [ob]).1 hs8
  have c11 : Exa Z T8.heap ob "quorumkeep/store/Messages$Reader" := (E_ob.keep Kq8)
  have ne_oa8 : ob ≠ ar8 := own_ne_arv c11 (hw _ (List.mem_of_getElem? (i := 7) rfl)) Vq8
  have c12 : Fld Z T8.heap ob "quorumkeep/store/Messages$Reader" "line" "[B" (.ref ln) := (F_line.keep Kq8 nin0)
  obtain ⟨T13, h13, X13, e13, W13, st13⟩ := putF X8 hx hZ hown (host := "") (Or.inl (hw _ (List.mem_of_getElem? (i := 17) rfl))) Via.refl rfl c12 c11 (Or.inl (hw _ (List.mem_of_getElem? (i := 18) rfl))) (hw _ (List.mem_of_getElem? (i := 7) rfl)) (ty := (.array .byte)) (by decide) rfl rfl (g := (mkF m 108 #[.val (.ref ob), .val (.int p1), .unset, .unset] [(.ref ar8), (.ref ob)])) rfl rfl (hb hby d15_108)
  have Fw13 : Fld Z h13 ob "quorumkeep/store/Messages$Reader" "line" "[B" (.ref ar8) := c12.same W13
  have Z14 : n0 ≤ h13.size := Nat.le_trans Z9 (Keep.of_wr W13).1
  have K13 : Keep h0 h13 [ob] := K10.wr W13 (Or.inl (List.mem_of_getElem? (i := 0) rfl))
  have N13 := Fr.snoc X13 N8 g_ob
  have pre15 : ∀ t, Steps p.tables e below (T13.setTop (mkF m 111 #[.val (.ref ob), .val (.int p1), .unset, .unset] [])) t → Steps p.tables e below (s₁.setTop (entryFrame m #[(.ref ob), (.int p1)] 4)) t := fun t k => by
    refine pre0 t ?_
    show Steps p.tables e below (s₁.setTop (mkF m 0 #[.val (.ref ob), .val (.int p1), .unset, .unset] [])) _
    refine XS.iloadN X0.here hx rfl (hb hby d15_0) rfl ?_
    show Steps p.tables e below (s₁.setTop (mkF m 1 #[.val (.ref ob), .val (.int p1), .unset, .unset] [(.int p1)])) _
    refine XS.aloadN X0.here hx rfl (hb hby d15_1) rfl rfl ?_
    show Steps p.tables e below (s₁.setTop (mkF m 2 #[.val (.ref ob), .val (.int p1), .unset, .unset] [(.ref ob), (.int p1)])) _
    refine st1 _ ?_
    show Steps p.tables e below (T1.setTop (mkF m 5 #[.val (.ref ob), .val (.int p1), .unset, .unset] [(.int (4194306 : Int32)), (.int p1)])) _
    refine XS.icmpYes X1.here hx rfl (pc0 := 5) (pc' := 82) rfl (hb hby d15_5) rfl (flt (own_g3 hp : ¬ ((4194306 : Int32) < p1))).2.2.2 (by decide) (by decide) ?_
    show Steps p.tables e below (T1.setTop (mkF m 82 #[.val (.ref ob), .val (.int p1), .unset, .unset] [])) _
    refine XS.aloadN X1.here hx rfl (hb hby d15_82) rfl rfl ?_
    show Steps p.tables e below (T1.setTop (mkF m 83 #[.val (.ref ob), .val (.int p1), .unset, .unset] [(.ref ob)])) _
    refine XS.aloadN X1.here hx rfl (hb hby d15_83) rfl rfl ?_
    show Steps p.tables e below (T1.setTop (mkF m 84 #[.val (.ref ob), .val (.int p1), .unset, .unset] [(.ref ob), (.ref ob)])) _
    refine st2 _ ?_
    show Steps p.tables e below (T2.setTop (mkF m 87 #[.val (.ref ob), .val (.int p1), .unset, .unset] [(.ref ln), (.ref ob)])) _
    refine XS.iloadN X2.here hx rfl (hb hby d15_87) rfl ?_
    show Steps p.tables e below (T2.setTop (mkF m 88 #[.val (.ref ob), .val (.int p1), .unset, .unset] [(.int p1), (.ref ln), (.ref ob)])) _
    refine XS.iconst X2.here hx rfl (hb hby d15_88) ?_
    show Steps p.tables e below (T2.setTop (mkF m 89 #[.val (.ref ob), .val (.int p1), .unset, .unset] [(.int (2 : Int32)), (.int p1), (.ref ln), (.ref ob)])) _
    refine XS.aloadN X2.here hx rfl (hb hby d15_89) rfl rfl ?_
    show Steps p.tables e below (T2.setTop (mkF m 90 #[.val (.ref ob), .val (.int p1), .unset, .unset] [(.ref ob), (.int (2 : Int32)), (.int p1), (.ref ln), (.ref ob)])) _
    refine st3 _ ?_
    show Steps p.tables e below (T3.setTop (mkF m 93 #[.val (.ref ob), .val (.int p1), .unset, .unset] [(.ref ln), (.int (2 : Int32)), (.int p1), (.ref ln), (.ref ob)])) _
    refine X3.arraylength hx (by rw [e3]; exact Ar4.1) (State.isArrayOf_alike hZ.alike Ar4.2.1) (g := (mkF m 93 #[.val (.ref ob), .val (.int p1), .unset, .unset] [(.ref ln), (.int (2 : Int32)), (.int p1), (.ref ln), (.ref ob)])) rfl rfl (hb hby d15_93) _ ?_
    rw [len_of Sz4 Nz4]
    show Steps p.tables e below (T3.setTop (mkF m 94 #[.val (.ref ob), .val (.int p1), .unset, .unset] [(.int (0 : Int32)), (.int (2 : Int32)), (.int p1), (.ref ln), (.ref ob)])) _
    refine XS.imul X3.here hx rfl (hb hby d15_94) rfl ?_
    show Steps p.tables e below (T3.setTop (mkF m 95 #[.val (.ref ob), .val (.int p1), .unset, .unset] [(.int ((2 : Int32) * (0 : Int32))), (.int p1), (.ref ln), (.ref ob)])) _
    refine st5 _ ?_
    show Steps p.tables e below (T5.setTop (mkF m 98 #[.val (.ref ob), .val (.int p1), .unset, .unset] [(.int p1), (.ref ln), (.ref ob)])) _
    refine XS.aloadN X5.here hx rfl (hb hby d15_98) rfl rfl ?_
    show Steps p.tables e below (T5.setTop (mkF m 99 #[.val (.ref ob), .val (.int p1), .unset, .unset] [(.ref ob), (.int p1), (.ref ln), (.ref ob)])) _
    refine st6 _ ?_
    show Steps p.tables e below (T6.setTop (mkF m 102 #[.val (.ref ob), .val (.int p1), .unset, .unset] [(.int (4194306 : Int32)), (.int p1), (.ref ln), (.ref ob)])) _
    refine st7 _ ?_
    show Steps p.tables e below (T7.setTop (mkF m 105 #[.val (.ref ob), .val (.int p1), .unset, .unset] [(.int p1), (.ref ln), (.ref ob)])) _
    refine st8 _ ?_
    show Steps p.tables e below (T8.setTop (mkF m 108 #[.val (.ref ob), .val (.int p1), .unset, .unset] [(.ref ar8), (.ref ob)])) _
    refine st13 _ ?_
    exact k
  obtain ⟨fs, hrq, hrun, hended, hW, hsame⟩ := X13.leave (v := none) (fun _ => rfl)
  refine ⟨_, _, pre15 _ ?_, hrun, hended, _, _, rfl, ?_, ⟨_, rfl⟩, hW, hsame.mono (by decide) (by decide)⟩
  · show Steps p.tables e below (T13.setTop (mkF m 111 #[.val (.ref ob), .val (.int p1), .unset, .unset] [])) _
    exact X13.returnOut hx Bd.returns (hb hby d15_111) hrq
  · show Qgrow Z ob p1 ln kl h0 n0 _ T13.heap _
    rw [e13]
    have c16 : Exa Z h13 ob "quorumkeep/store/Messages$Reader" := (c11.wr W13)
    have c17 : Arv Z h13 ar8 kk8 .byte p1 [(.int (0 : Int32)), (.int (0 : Int32)), (.int (0 : Int32)), (.int (0 : Int32))] (.int (0 : Int32)) := (Vq8.other W13 (Ne.symm ne_oa8))
    have c18 : Exa Z h13 ar8 "[B" := (Ev8.wr W13)
    exact ⟨rfl, N13, K13, c16, ⟨_, _, sz_ar8, Fw13, c17, c18⟩, (fun F n_line => ((F.keep Kq8 nin0).other W13 (Or.inr n_line)))⟩
theorem pd_5 : parseMethodDescriptor "(I)V" = some ⟨[.int], none⟩ := by decide +kernel
theorem d7_0 : decode prog_163_method_8_code 0 = .ok (.iload_n 1, 1) := by decide +kernel
theorem d7_1 : decode prog_163_method_8_code 1 = .ok (.aload_n 0, 1) := by decide +kernel
theorem d7_2 : decode prog_163_method_8_code 2 = .ok (.getfield 69, 3) := by decide +kernel
theorem d7_5 : decode prog_163_method_8_code 5 = .ok (.isub, 1) := by decide +kernel
theorem d7_6 : decode prog_163_method_8_code 6 = .ok (.ldc 62, 2) := by decide +kernel
theorem d7_8 : decode prog_163_method_8_code 8 = .ok (.aload_n 0, 1) := by decide +kernel
theorem d7_9 : decode prog_163_method_8_code 9 = .ok (.getfield 59, 3) := by decide +kernel
theorem d7_12 : decode prog_163_method_8_code 12 = .ok (.isub, 1) := by decide +kernel
theorem d7_13 : decode prog_163_method_8_code 13 = .ok (.invokestatic 106, 3) := by decide +kernel
theorem d7_16 : decode prog_163_method_8_code 16 = .ok (.istore_n 2, 1) := by decide +kernel
theorem d7_17 : decode prog_163_method_8_code 17 = .ok (.iload_n 2, 1) := by decide +kernel
theorem d7_18 : decode prog_163_method_8_code 18 = .ok (.ifCond .ne 4, 3) := by decide +kernel
theorem d7_22 : decode prog_163_method_8_code 22 = .ok (.aload_n 0, 1) := by decide +kernel
theorem d7_23 : decode prog_163_method_8_code 23 = .ok (.getfield 59, 3) := by decide +kernel
theorem d7_26 : decode prog_163_method_8_code 26 = .ok (.iload_n 2, 1) := by decide +kernel
theorem d7_27 : decode prog_163_method_8_code 27 = .ok (.iadd, 1) := by decide +kernel
theorem d7_28 : decode prog_163_method_8_code 28 = .ok (.aload_n 0, 1) := by decide +kernel
theorem d7_29 : decode prog_163_method_8_code 29 = .ok (.getfield 20, 3) := by decide +kernel
theorem d7_32 : decode prog_163_method_8_code 32 = .ok (.arraylength, 1) := by decide +kernel
theorem d7_33 : decode prog_163_method_8_code 33 = .ok (.if_icmp .le 13, 3) := by decide +kernel
theorem d7_36 : decode prog_163_method_8_code 36 = .ok (.aload_n 0, 1) := by decide +kernel
theorem d7_37 : decode prog_163_method_8_code 37 = .ok (.aload_n 0, 1) := by decide +kernel
theorem d7_38 : decode prog_163_method_8_code 38 = .ok (.getfield 59, 3) := by decide +kernel
theorem d7_41 : decode prog_163_method_8_code 41 = .ok (.iload_n 2, 1) := by decide +kernel
theorem d7_42 : decode prog_163_method_8_code 42 = .ok (.iadd, 1) := by decide +kernel
theorem d7_43 : decode prog_163_method_8_code 43 = .ok (.invokevirtual 122, 3) := by decide +kernel
theorem d7_46 : decode prog_163_method_8_code 46 = .ok (.aload_n 0, 1) := by decide +kernel
theorem d7_47 : decode prog_163_method_8_code 47 = .ok (.getfield 46, 3) := by decide +kernel
theorem d7_50 : decode prog_163_method_8_code 50 = .ok (.aload_n 0, 1) := by decide +kernel
theorem d7_51 : decode prog_163_method_8_code 51 = .ok (.getfield 69, 3) := by decide +kernel
theorem d7_54 : decode prog_163_method_8_code 54 = .ok (.aload_n 0, 1) := by decide +kernel
theorem d7_55 : decode prog_163_method_8_code 55 = .ok (.getfield 20, 3) := by decide +kernel
theorem d7_58 : decode prog_163_method_8_code 58 = .ok (.aload_n 0, 1) := by decide +kernel
theorem d7_59 : decode prog_163_method_8_code 59 = .ok (.getfield 59, 3) := by decide +kernel
theorem d7_62 : decode prog_163_method_8_code 62 = .ok (.iload_n 2, 1) := by decide +kernel
theorem d7_63 : decode prog_163_method_8_code 63 = .ok (.invokestatic 100, 3) := by decide +kernel
theorem d7_66 : decode prog_163_method_8_code 66 = .ok (.aload_n 0, 1) := by decide +kernel
theorem d7_67 : decode prog_163_method_8_code 67 = .ok (.dup, 1) := by decide +kernel
theorem d7_68 : decode prog_163_method_8_code 68 = .ok (.getfield 59, 3) := by decide +kernel
theorem d7_71 : decode prog_163_method_8_code 71 = .ok (.iload_n 2, 1) := by decide +kernel
theorem d7_72 : decode prog_163_method_8_code 72 = .ok (.iadd, 1) := by decide +kernel
theorem d7_73 : decode prog_163_method_8_code 73 = .ok (.putfield 59, 3) := by decide +kernel
theorem d7_76 : decode prog_163_method_8_code 76 = .ok (.return_, 1) := by decide +kernel
theorem ef_rmkeep (m : MethodId) (x0 : Addr) (x1 : Int32) : entryFrame m #[(.ref x0), (.int x1)] 3 = mkF m 0 #[.val (.ref x0), .val (.int x1), .unset] [] := by first | (simp [entryFrame, mkF, argsToLocals, Value.category]; done) | rfl
def Qkeep (Z : State) (ob : Addr) (z : Int32) (ar : Addr) (kk : ClassId) (vs : List Value) (dv : Value) (ln : Addr) (kl : ClassId) (s : Int32) (h0 : Heap) (n0 : Nat) (v : Option Value) (h : Heap) (L : List Loc) : Prop := v = none ∧ Fr n0 L ∧ Keep h0 h [ob] ∧ Exa Z h ob "quorumkeep/store/Messages$Reader" ∧ Fld Z h ob "quorumkeep/store/Messages$Reader" "size" "I" (.int ((0 : Int32) + (z - s))) ∧ (∃ (l2 : Addr) (k2 : ClassId) (vs2 : List Value), h0.size ≤ l2 ∧ Fld Z h ob "quorumkeep/store/Messages$Reader" "line" "[B" (.ref l2) ∧ Arv Z h l2 k2 .byte ((0 : Int32) + (z - s)) vs2 (.int (0 : Int32)) ∧ Exa Z h l2 "[B") ∧ (∀ {C n d : String} {u : Value}, Fld Z h0 ob C n d u → Jvm.RoadKit.slotOf Z C n d ≠ Jvm.RoadKit.slotOf Z "quorumkeep/store/Messages$Reader" "line" "[B" → Jvm.RoadKit.slotOf Z C n d ≠ Jvm.RoadKit.slotOf Z "quorumkeep/store/Messages$Reader" "size" "I" → Fld Z h ob C n d u)
set_option maxRecDepth 65536 in
set_option maxHeartbeats 40000000 in
theorem rmkeep (l : Launch) (Z : State) (a0 : Array Value) (hw : ∀ d ∈ tables_1, d.before a0 Z = true) (ws : List Jvm.Cond) (ob : Addr) (z : Int32) (ar : Addr) (kk : ClassId) (vs : List Value) (dv : Value) (ln : Addr) (kl : ClassId) (s : Int32) (h0 : Heap) (n0 : Nat) (Z0 : n0 ≤ h0.size) (E_ob : Exa Z h0 ob "quorumkeep/store/Messages$Reader") (F_start : Fld Z h0 ob "quorumkeep/store/Messages$Reader" "start" "I" (.int s)) (F_size : Fld Z h0 ob "quorumkeep/store/Messages$Reader" "size" "I" (.int (0 : Int32))) (F_line : Fld Z h0 ob "quorumkeep/store/Messages$Reader" "line" "[B" (.ref ln)) (F_buffer : Fld Z h0 ob "quorumkeep/store/Messages$Reader" "buffer" "[B" (.ref ar)) (F_keepable : Fld Z h0 ob "quorumkeep/store/Messages$Reader" "keepable" "I" (.int (4194306 : Int32))) (V_ln : Arv Z h0 ln kl .byte (0 : Int32) [] (.int (0 : Int32))) (V_ar : Arv Z h0 ar kk .byte z vs dv) (hB : 0 ≤ s.toInt ∧ s.toInt < z.toInt ∧ z.toInt ≤ 4) (g_ob : n0 ≤ ob) :
    MetFree l (⟨"quorumkeep/store/Messages$Reader", "keep", "(I)V"⟩ : MethodName) (head1 (Jvm.Cond.code (⟨"quorumkeep/store/Messages$Reader", "keep", "(I)V"⟩ : MethodName) prog_163_method_8_code 3 none :: ws) ({ frames := 3, cells := 1, slots := 4, locals := 48 } : Room)) (fun a U => a = #[(.ref ob), (.int z)] ∧ Z.Warmed39 U.vm ∧ U.heap = h0) (fun _ _ _ _ _ => True) (fun _ U o U' => ∃ v L, o = .returned v ∧ Qkeep Z ob z ar kk vs dv ln kl s h0 n0 v U'.heap L ∧ FrameEnd U o U' L ({ frames := 3, cells := 1, slots := 4, locals := 48 } : Room).cells ({ frames := 3, cells := 1, slots := 4, locals := 48 } : Room).slots) := by
  refine MetFree.of_bodySF (plainFor_of_name pn_1) hisR ?_
  intro p e s0 m args below meth c s₁ Bd hml0 hP hK
  obtain ⟨rfl, hZ, hh⟩ := hP
  have hx := Bd.exec
  have hby := Bd.bytes
  have hml : c.maxLocals = 3 := hml0
  have hown : s0.vm.findClass "quorumkeep/store/Messages$Reader" = some m.cls := findClass_of_methodNamed Bd.named
  have hnm := (name_of_methodNamed Bd.named Bd.method).1
  have X0 : Stand p l e ({ frames := 3, cells := 1, slots := 4, locals := 48 } : Room) s0 m #[(.ref ob), (.int z)] below meth c s₁ [] 0 0 := Stand.of_body Bd
  have e0 : s₁.heap = h0 := by rw [← hh, Bd.state]; rfl
  have N0 := Fr.nil n0
  have pre0 : ∀ t, Steps p.tables e below (s₁.setTop (mkF m 0 #[.val (.ref ob), .val (.int z), .unset] [])) t → Steps p.tables e below (s₁.setTop (entryFrame m #[(.ref ob), (.int z)] 3)) t := fun t k => castTop (ef_rmkeep m ob z) k
  have ne_oar : ob ≠ ar := own_ne_arv E_ob (hw _ (List.mem_of_getElem? (i := 7) rfl)) V_ar
  have ne_oln : ob ≠ ln := own_ne_arv E_ob (hw _ (List.mem_of_getElem? (i := 7) rfl)) V_ln
  obtain ⟨T1, X1, e1, st1⟩ := getF X0 hx hZ hown (host := "") (Or.inl (hw _ (List.mem_of_getElem? (i := 36) rfl))) Via.refl e0 F_start (g := (mkF m 2 #[.val (.ref ob), .val (.int z), .unset] [(.ref ob), (.int z)])) rfl rfl (hb hby d7_2)
  obtain ⟨T2, X2, e2, st2⟩ := getF X1 hx hZ hown (host := "") (Or.inl (hw _ (List.mem_of_getElem? (i := 50) rfl))) Via.refl e1 F_size (g := (mkF m 9 #[.val (.ref ob), .val (.int z), .unset] [(.ref ob), (.int (4194306 : Int32)), (.int (z - s))])) rfl rfl (hb hby d7_9)
  obtain ⟨_, _, ⟨T3, L3, k3, n3⟩, -, X3, ⟨Lc3, hQ3, l3, y3, z3⟩, st3⟩ := Jvm.LawKit.callS X2 hx (y := (⟨"java/lang/Math", "min", "(II)I"⟩ : MethodName)) hown (mvT hZ (hw _ (List.mem_of_getElem? (i := 59) rfl))) (mvT hZ (hw _ (List.mem_of_getElem? (i := 60) rfl))) (mvT hZ (hw _ (List.mem_of_getElem? (i := 61) rfl))) (mvT hZ (hw _ (List.mem_of_getElem? (i := 62) rfl))) (by decide) (backOf (W := 0) (rmmin l Z a0 hw [] (z - s) ((4194306 : Int32) - (0 : Int32)) (z - s) h0 n0 Z0 (own_k1 hB)) hZ (hw _ (List.mem_of_getElem? (i := 62) rfl)) (hw _ (List.mem_of_getElem? (i := 61) rfl)) (by decide) (by decide)) (g := (mkF m 13 #[.val (.ref ob), .val (.int z), .unset] [(.int ((4194306 : Int32) - (0 : Int32))), (.int (z - s))])) rfl (by rw [hml]; rfl) (argsL := [(.int (z - s)), (.int ((4194306 : Int32) - (0 : Int32)))]) (rest := []) (lenOf pd_2 rfl) rfl (by show 2 * 0 + _ ≤ _; exact Nat.le_of_eq rfl) (hb hby d7_13) (fun _ _ => ⟨rfl, e2, (by decide : 0 + 0 ≤ _), (by decide : 0 + 0 ≤ _)⟩)
  dsimp only [Pt.U, Pt.locs, Pt.cells, Pt.slots] at X3 l3 y3 z3 st3 hQ3
  subst l3 y3 z3
  obtain ⟨rfl, Nq3, hh3⟩ := hQ3
  have N3 := Fr.app N0 Nq3
  have e3 : T3.heap = h0 := hh3
  obtain ⟨T4, X4, e4, st4⟩ := getF X3 hx hZ hown (host := "") (Or.inl (hw _ (List.mem_of_getElem? (i := 50) rfl))) Via.refl e3 F_size (g := (mkF m 23 #[.val (.ref ob), .val (.int z), .val (.int (z - s))] [(.ref ob)])) rfl rfl (hb hby d7_23)
  obtain ⟨T5, X5, e5, st5⟩ := getF X4 hx hZ hown (host := "") (Or.inl (hw _ (List.mem_of_getElem? (i := 17) rfl))) Via.refl e4 F_line (g := (mkF m 29 #[.val (.ref ob), .val (.int z), .val (.int (z - s))] [(.ref ob), (.int ((0 : Int32) + (z - s)))])) rfl rfl (hb hby d7_29)
  obtain ⟨cl6, Ar6, -, Sz6, Nz6, -, -⟩ := id V_ln
  obtain ⟨T7, X7, e7, st7⟩ := getF X5 hx hZ hown (host := "") (Or.inl (hw _ (List.mem_of_getElem? (i := 50) rfl))) Via.refl e5 F_size (g := (mkF m 38 #[.val (.ref ob), .val (.int z), .val (.int (z - s))] [(.ref ob), (.ref ob)])) rfl rfl (hb hby d7_38)
  obtain ⟨cq8, q8, q8'⟩ := E_ob.cell
  obtain ⟨_, _, ⟨T8, L8, k8, n8⟩, -, X8, ⟨Lc8, hQ8, l8, y8, z8⟩, st8⟩ := X7.privateBack hx (y := (⟨"quorumkeep/store/Messages$Reader", "grow", "(I)V"⟩ : MethodName)) hown (mvT hZ (hw _ (List.mem_of_getElem? (i := 90) rfl))) (mvT hZ (hw _ (List.mem_of_getElem? (i := 91) rfl))) (mvT hZ (own_selects_private (hw _ (List.mem_of_getElem? (i := 7) rfl)) (hw _ (List.mem_of_getElem? (i := 92) rfl)) (hw _ (List.mem_of_getElem? (i := 91) rfl)))) (Cond.privateMethod_at (mvP hZ (hw _ (List.mem_of_getElem? (i := 92) rfl)) (args := #[]))) (mvT hZ (hw _ (List.mem_of_getElem? (i := 93) rfl))) (by decide) (backOf (W := 0) (rmgrow l Z a0 hw [] ob ((0 : Int32) + (z - s)) ln kl h0 n0 Z0 E_ob F_keepable F_line V_ln (own_gp hB) g_ob) hZ (hw _ (List.mem_of_getElem? (i := 93) rfl)) (hw _ (List.mem_of_getElem? (i := 8) rfl)) (by decide) (by decide)) (g := (mkF m 43 #[.val (.ref ob), .val (.int z), .val (.int (z - s))] [(.int ((0 : Int32) + (z - s))), (.ref ob)])) rfl (by rw [hml]; rfl) (Steps.refl _) (a := ob) (by rw [e7]; exact q8) q8' (argsL := [(.int ((0 : Int32) + (z - s)))]) (rest := []) (lenOf pd_5 rfl) rfl (by show 2 * 0 + _ ≤ _; exact Nat.le_of_eq rfl) (hb hby d7_43) (fun _ _ => ⟨rfl, e7, (by decide : 0 + 1 ≤ _), (by decide : 0 + 4 ≤ _)⟩)
  dsimp only [Pt.U, Pt.locs, Pt.cells, Pt.slots] at X8 l8 y8 z8 st8 hQ8
  subst l8 y8 z8
  obtain ⟨rfl, Nq8, Kq8, Eq8, ⟨l28, k28, hs8, Fl8, Vl8, El8⟩, bt8⟩ := hQ8
  have N8 := Fr.app N3 Nq8
  have Z9 : n0 ≤ T8.heap.size := Nat.le_trans Z0 Kq8.1
  have K10 : Keep h0 T8.heap [ob] := (Keep.refl h0 [ob]).trans Kq8 (allS (Or.inl (List.mem_of_getElem? (i := 0) rfl)) all0)
  have g_l28 : n0 ≤ l28 := Nat.le_trans Z0 hs8
  have sz_l28 : h0.size ≤ l28 := Nat.le_trans (Keep.refl h0 [ob]).1 hs8
  have ne_ol8 : ob ≠ l28 := own_ne_arv Eq8 (hw _ (List.mem_of_getElem? (i := 7) rfl)) Vl8
  have c11 : Fld Z T8.heap ob "quorumkeep/store/Messages$Reader" "buffer" "[B" (.ref ar) := (bt8 F_buffer (slot_ne (a0 := a0) (Or.inr (hw _ (List.mem_of_getElem? (i := 26) rfl))) (Or.inl (hw _ (List.mem_of_getElem? (i := 18) rfl))) (by decide) (t := (.array .byte)) (t' := (.array .byte)) (by decide) (by decide)))
  obtain ⟨T12, X12, e12, st12⟩ := getF X8 hx hZ hown (host := "") (Or.inl (hw _ (List.mem_of_getElem? (i := 25) rfl))) Via.refl rfl c11 (g := (mkF m 47 #[.val (.ref ob), .val (.int z), .val (.int (z - s))] [(.ref ob)])) rfl rfl (hb hby d7_47)
  have c13 : Fld Z T8.heap ob "quorumkeep/store/Messages$Reader" "start" "I" (.int s) := (bt8 F_start (slot_ne (a0 := a0) (Or.inl (hw _ (List.mem_of_getElem? (i := 37) rfl))) (Or.inl (hw _ (List.mem_of_getElem? (i := 18) rfl))) (by decide) (t := .int) (t' := (.array .byte)) (by decide) (by decide)))
  obtain ⟨T14, X14, e14, st14⟩ := getF X12 hx hZ hown (host := "") (Or.inl (hw _ (List.mem_of_getElem? (i := 36) rfl))) Via.refl e12 c13 (g := (mkF m 51 #[.val (.ref ob), .val (.int z), .val (.int (z - s))] [(.ref ob), (.ref ar)])) rfl rfl (hb hby d7_51)
  obtain ⟨T15, X15, e15, st15⟩ := getF X14 hx hZ hown (host := "") (Or.inl (hw _ (List.mem_of_getElem? (i := 17) rfl))) Via.refl e14 Fl8 (g := (mkF m 55 #[.val (.ref ob), .val (.int z), .val (.int (z - s))] [(.ref ob), (.int s), (.ref ar)])) rfl rfl (hb hby d7_55)
  have c16 : Fld Z T8.heap ob "quorumkeep/store/Messages$Reader" "size" "I" (.int (0 : Int32)) := (bt8 F_size (slot_ne (a0 := a0) (Or.inl (hw _ (List.mem_of_getElem? (i := 51) rfl))) (Or.inl (hw _ (List.mem_of_getElem? (i := 18) rfl))) (by decide) (t := .int) (t' := (.array .byte)) (by decide) (by decide)))
  obtain ⟨T17, X17, e17, st17⟩ := getF X15 hx hZ hown (host := "") (Or.inl (hw _ (List.mem_of_getElem? (i := 50) rfl))) Via.refl e15 c16 (g := (mkF m 59 #[.val (.ref ob), .val (.int z), .val (.int (z - s))] [(.ref ob), (.ref l28), (.int s), (.ref ar)])) rfl rfl (hb hby d7_59)
  have c18 : Arv Z T8.heap ar kk .byte z vs dv := (V_ar.keep Kq8 (ninS (Ne.symm ne_oar) nin0))
  obtain ⟨T19, h19, Lc19, X19, e19, N19, Kc19, Vc19, st19⟩ := cpA X17 hx hZ hown (hw _ (List.mem_of_getElem? (i := 100) rfl)) (hw _ (List.mem_of_getElem? (i := 89) rfl)) (hw _ (List.mem_of_getElem? (i := 87) rfl)) (hw _ (List.mem_of_getElem? (i := 88) rfl)) e17 c18 Vl8 (Or.inl ⟨rfl, rfl⟩) (own_k4 hB) (by decide) (own_k5' hB) (own_k6 hB) (own_k7 hB) rfl (own_k8 hB) N8 g_l28 (g := (mkF m 63 #[.val (.ref ob), .val (.int z), .val (.int (z - s))] [(.int (z - s)), (.int (0 : Int32)), (.ref l28), (.int s), (.ref ar)])) rfl (by rw [hml]; rfl) rfl (hb hby d7_63) (by decide) (W := 0) (by show 2 * 0 + _ ≤ _; exact Nat.le_of_eq rfl) (by decide)
  have Z20 : n0 ≤ h19.size := Nat.le_trans Z9 Kc19.1
  have K21 : Keep h0 h19 [ob] := K10.trans Kc19 (allS (Or.inr sz_l28) all0)
  obtain ⟨vc19, Vd19⟩ : ∃ vs, Arv Z h19 l28 k28 .byte ((0 : Int32) + (z - s)) vs (.int (0 : Int32)) := ⟨_, Vc19⟩
  have c22 : Fld Z h19 ob "quorumkeep/store/Messages$Reader" "size" "I" (.int (0 : Int32)) := (c16.keep Kc19 (ninS ne_ol8 nin0))
  obtain ⟨T23, X23, e23, st23⟩ := getF X19 hx hZ hown (host := "") (Or.inl (hw _ (List.mem_of_getElem? (i := 50) rfl))) Via.refl e19 c22 (g := (mkF m 68 #[.val (.ref ob), .val (.int z), .val (.int (z - s))] [(.ref ob), (.ref ob)])) rfl rfl (hb hby d7_68)
  have c24 : Exa Z h19 ob "quorumkeep/store/Messages$Reader" := (Eq8.keep Kc19)
  obtain ⟨T25, h25, X25, e25, W25, st25⟩ := putF X23 hx hZ hown (host := "") (Or.inl (hw _ (List.mem_of_getElem? (i := 50) rfl))) Via.refl e23 c22 c24 (Or.inl (hw _ (List.mem_of_getElem? (i := 51) rfl))) (hw _ (List.mem_of_getElem? (i := 7) rfl)) (ty := .int) (by decide) rfl rfl (g := (mkF m 73 #[.val (.ref ob), .val (.int z), .val (.int (z - s))] [(.int ((0 : Int32) + (z - s))), (.ref ob)])) rfl rfl (hb hby d7_73)
  have Fw25 : Fld Z h25 ob "quorumkeep/store/Messages$Reader" "size" "I" (.int ((0 : Int32) + (z - s))) := c22.same W25
  have Z26 : n0 ≤ h25.size := Nat.le_trans Z20 (Keep.of_wr W25).1
  have K25 : Keep h0 h25 [ob] := K21.wr W25 (Or.inl (List.mem_of_getElem? (i := 0) rfl))
  have N25 := Fr.snoc X25 N19 g_ob
  have pre27 : ∀ t, Steps p.tables e below (T25.setTop (mkF m 76 #[.val (.ref ob), .val (.int z), .val (.int (z - s))] [])) t → Steps p.tables e below (s₁.setTop (entryFrame m #[(.ref ob), (.int z)] 3)) t := fun t k => by
    refine pre0 t ?_
    show Steps p.tables e below (s₁.setTop (mkF m 0 #[.val (.ref ob), .val (.int z), .unset] [])) _
    refine XS.iloadN X0.here hx rfl (hb hby d7_0) rfl ?_
    show Steps p.tables e below (s₁.setTop (mkF m 1 #[.val (.ref ob), .val (.int z), .unset] [(.int z)])) _
    refine XS.aloadN X0.here hx rfl (hb hby d7_1) rfl rfl ?_
    show Steps p.tables e below (s₁.setTop (mkF m 2 #[.val (.ref ob), .val (.int z), .unset] [(.ref ob), (.int z)])) _
    refine st1 _ ?_
    show Steps p.tables e below (T1.setTop (mkF m 5 #[.val (.ref ob), .val (.int z), .unset] [(.int s), (.int z)])) _
    refine XS.isub X1.here hx rfl (hb hby d7_5) rfl ?_
    show Steps p.tables e below (T1.setTop (mkF m 6 #[.val (.ref ob), .val (.int z), .unset] [(.int (z - s))])) _
    refine X1.ldcInt hx hown (mvT hZ (hw _ (List.mem_of_getElem? (i := 52) rfl))) (g := (mkF m 6 #[.val (.ref ob), .val (.int z), .unset] [(.int (z - s))])) rfl (hb hby d7_6) _ ?_
    show Steps p.tables e below (T1.setTop (mkF m 8 #[.val (.ref ob), .val (.int z), .unset] [(.int (4194306 : Int32)), (.int (z - s))])) _
    refine XS.aloadN X1.here hx rfl (hb hby d7_8) rfl rfl ?_
    show Steps p.tables e below (T1.setTop (mkF m 9 #[.val (.ref ob), .val (.int z), .unset] [(.ref ob), (.int (4194306 : Int32)), (.int (z - s))])) _
    refine st2 _ ?_
    show Steps p.tables e below (T2.setTop (mkF m 12 #[.val (.ref ob), .val (.int z), .unset] [(.int (0 : Int32)), (.int (4194306 : Int32)), (.int (z - s))])) _
    refine XS.isub X2.here hx rfl (hb hby d7_12) rfl ?_
    show Steps p.tables e below (T2.setTop (mkF m 13 #[.val (.ref ob), .val (.int z), .unset] [(.int ((4194306 : Int32) - (0 : Int32))), (.int (z - s))])) _
    refine st3 _ ?_
    show Steps p.tables e below (T3.setTop (mkF m 16 #[.val (.ref ob), .val (.int z), .unset] [(.int (z - s))])) _
    refine XS.istoreN X3.here hx rfl (hb hby d7_16) rfl (l' := #[.val (.ref ob), .val (.int z), .val (.int (z - s))]) rfl ?_
    show Steps p.tables e below (T3.setTop (mkF m 17 #[.val (.ref ob), .val (.int z), .val (.int (z - s))] [])) _
    refine XS.iloadN X3.here hx rfl (hb hby d7_17) rfl ?_
    show Steps p.tables e below (T3.setTop (mkF m 18 #[.val (.ref ob), .val (.int z), .val (.int (z - s))] [(.int (z - s))])) _
    refine XS.ifYes X3.here hx rfl (pc0 := 18) (pc' := 22) rfl (hb hby d7_18) rfl ((if0 _ _).trans (feq (own_k2 hB : ¬ ((z - s) = (0 : Int32)))).2) (by decide) (by decide) ?_
    show Steps p.tables e below (T3.setTop (mkF m 22 #[.val (.ref ob), .val (.int z), .val (.int (z - s))] [])) _
    refine XS.aloadN X3.here hx rfl (hb hby d7_22) rfl rfl ?_
    show Steps p.tables e below (T3.setTop (mkF m 23 #[.val (.ref ob), .val (.int z), .val (.int (z - s))] [(.ref ob)])) _
    refine st4 _ ?_
    show Steps p.tables e below (T4.setTop (mkF m 26 #[.val (.ref ob), .val (.int z), .val (.int (z - s))] [(.int (0 : Int32))])) _
    refine XS.iloadN X4.here hx rfl (hb hby d7_26) rfl ?_
    show Steps p.tables e below (T4.setTop (mkF m 27 #[.val (.ref ob), .val (.int z), .val (.int (z - s))] [(.int (z - s)), (.int (0 : Int32))])) _
    refine XS.iadd X4.here hx rfl (hb hby d7_27) rfl ?_
    show Steps p.tables e below (T4.setTop (mkF m 28 #[.val (.ref ob), .val (.int z), .val (.int (z - s))] [(.int ((0 : Int32) + (z - s)))])) _
    refine XS.aloadN X4.here hx rfl (hb hby d7_28) rfl rfl ?_
    show Steps p.tables e below (T4.setTop (mkF m 29 #[.val (.ref ob), .val (.int z), .val (.int (z - s))] [(.ref ob), (.int ((0 : Int32) + (z - s)))])) _
    refine st5 _ ?_
    show Steps p.tables e below (T5.setTop (mkF m 32 #[.val (.ref ob), .val (.int z), .val (.int (z - s))] [(.ref ln), (.int ((0 : Int32) + (z - s)))])) _
    refine X5.arraylength hx (by rw [e5]; exact Ar6.1) (State.isArrayOf_alike hZ.alike Ar6.2.1) (g := (mkF m 32 #[.val (.ref ob), .val (.int z), .val (.int (z - s))] [(.ref ln), (.int ((0 : Int32) + (z - s)))])) rfl rfl (hb hby d7_32) _ ?_
    rw [len_of Sz6 Nz6]
    show Steps p.tables e below (T5.setTop (mkF m 33 #[.val (.ref ob), .val (.int z), .val (.int (z - s))] [(.int (0 : Int32)), (.int ((0 : Int32) + (z - s)))])) _
    refine XS.icmpNo X5.here hx rfl (hb hby d7_33) rfl (tlt (own_k3 hB : (0 : Int32) < ((0 : Int32) + (z - s)))).2.2.2 ?_
    show Steps p.tables e below (T5.setTop (mkF m 36 #[.val (.ref ob), .val (.int z), .val (.int (z - s))] [])) _
    refine XS.aloadN X5.here hx rfl (hb hby d7_36) rfl rfl ?_
    show Steps p.tables e below (T5.setTop (mkF m 37 #[.val (.ref ob), .val (.int z), .val (.int (z - s))] [(.ref ob)])) _
    refine XS.aloadN X5.here hx rfl (hb hby d7_37) rfl rfl ?_
    show Steps p.tables e below (T5.setTop (mkF m 38 #[.val (.ref ob), .val (.int z), .val (.int (z - s))] [(.ref ob), (.ref ob)])) _
    refine st7 _ ?_
    show Steps p.tables e below (T7.setTop (mkF m 41 #[.val (.ref ob), .val (.int z), .val (.int (z - s))] [(.int (0 : Int32)), (.ref ob)])) _
    refine XS.iloadN X7.here hx rfl (hb hby d7_41) rfl ?_
    show Steps p.tables e below (T7.setTop (mkF m 42 #[.val (.ref ob), .val (.int z), .val (.int (z - s))] [(.int (z - s)), (.int (0 : Int32)), (.ref ob)])) _
    refine XS.iadd X7.here hx rfl (hb hby d7_42) rfl ?_
    show Steps p.tables e below (T7.setTop (mkF m 43 #[.val (.ref ob), .val (.int z), .val (.int (z - s))] [(.int ((0 : Int32) + (z - s))), (.ref ob)])) _
    refine st8.trans ?_
    show Steps p.tables e below (T8.setTop (mkF m 46 #[.val (.ref ob), .val (.int z), .val (.int (z - s))] [])) _
    refine XS.aloadN X8.here hx rfl (hb hby d7_46) rfl rfl ?_
    show Steps p.tables e below (T8.setTop (mkF m 47 #[.val (.ref ob), .val (.int z), .val (.int (z - s))] [(.ref ob)])) _
    refine st12 _ ?_
    show Steps p.tables e below (T12.setTop (mkF m 50 #[.val (.ref ob), .val (.int z), .val (.int (z - s))] [(.ref ar)])) _
    refine XS.aloadN X12.here hx rfl (hb hby d7_50) rfl rfl ?_
    show Steps p.tables e below (T12.setTop (mkF m 51 #[.val (.ref ob), .val (.int z), .val (.int (z - s))] [(.ref ob), (.ref ar)])) _
    refine st14 _ ?_
    show Steps p.tables e below (T14.setTop (mkF m 54 #[.val (.ref ob), .val (.int z), .val (.int (z - s))] [(.int s), (.ref ar)])) _
    refine XS.aloadN X14.here hx rfl (hb hby d7_54) rfl rfl ?_
    show Steps p.tables e below (T14.setTop (mkF m 55 #[.val (.ref ob), .val (.int z), .val (.int (z - s))] [(.ref ob), (.int s), (.ref ar)])) _
    refine st15 _ ?_
    show Steps p.tables e below (T15.setTop (mkF m 58 #[.val (.ref ob), .val (.int z), .val (.int (z - s))] [(.ref l28), (.int s), (.ref ar)])) _
    refine XS.aloadN X15.here hx rfl (hb hby d7_58) rfl rfl ?_
    show Steps p.tables e below (T15.setTop (mkF m 59 #[.val (.ref ob), .val (.int z), .val (.int (z - s))] [(.ref ob), (.ref l28), (.int s), (.ref ar)])) _
    refine st17 _ ?_
    show Steps p.tables e below (T17.setTop (mkF m 62 #[.val (.ref ob), .val (.int z), .val (.int (z - s))] [(.int (0 : Int32)), (.ref l28), (.int s), (.ref ar)])) _
    refine XS.iloadN X17.here hx rfl (hb hby d7_62) rfl ?_
    show Steps p.tables e below (T17.setTop (mkF m 63 #[.val (.ref ob), .val (.int z), .val (.int (z - s))] [(.int (z - s)), (.int (0 : Int32)), (.ref l28), (.int s), (.ref ar)])) _
    refine st19 _ ?_
    show Steps p.tables e below (T19.setTop (mkF m 66 #[.val (.ref ob), .val (.int z), .val (.int (z - s))] [])) _
    refine XS.aloadN X19.here hx rfl (hb hby d7_66) rfl rfl ?_
    show Steps p.tables e below (T19.setTop (mkF m 67 #[.val (.ref ob), .val (.int z), .val (.int (z - s))] [(.ref ob)])) _
    refine XS.dup X19.here hx rfl (hb hby d7_67) rfl rfl ?_
    show Steps p.tables e below (T19.setTop (mkF m 68 #[.val (.ref ob), .val (.int z), .val (.int (z - s))] [(.ref ob), (.ref ob)])) _
    refine st23 _ ?_
    show Steps p.tables e below (T23.setTop (mkF m 71 #[.val (.ref ob), .val (.int z), .val (.int (z - s))] [(.int (0 : Int32)), (.ref ob)])) _
    refine XS.iloadN X23.here hx rfl (hb hby d7_71) rfl ?_
    show Steps p.tables e below (T23.setTop (mkF m 72 #[.val (.ref ob), .val (.int z), .val (.int (z - s))] [(.int (z - s)), (.int (0 : Int32)), (.ref ob)])) _
    refine XS.iadd X23.here hx rfl (hb hby d7_72) rfl ?_
    show Steps p.tables e below (T23.setTop (mkF m 73 #[.val (.ref ob), .val (.int z), .val (.int (z - s))] [(.int ((0 : Int32) + (z - s))), (.ref ob)])) _
    refine st25 _ ?_
    exact k
  obtain ⟨fs, hrq, hrun, hended, hW, hsame⟩ := X25.leave (v := none) (fun _ => rfl)
  refine ⟨_, _, pre27 _ ?_, hrun, hended, _, _, rfl, ?_, ⟨_, rfl⟩, hW, hsame.mono (by decide) (by decide)⟩
  · show Steps p.tables e below (T25.setTop (mkF m 76 #[.val (.ref ob), .val (.int z), .val (.int (z - s))] [])) _
    exact X25.returnOut hx Bd.returns (hb hby d7_76) hrq
  · show Qkeep Z ob z ar kk vs dv ln kl s h0 n0 _ T25.heap _
    rw [e25]
    have c28 : Exa Z h25 ob "quorumkeep/store/Messages$Reader" := (c24.wr W25)
    have c29 : Fld Z h25 ob "quorumkeep/store/Messages$Reader" "line" "[B" (.ref l28) := ((Fl8.keep Kc19 (ninS ne_ol8 nin0)).other W25 (Or.inr (slot_ne (a0 := a0) (Or.inl (hw _ (List.mem_of_getElem? (i := 18) rfl))) (Or.inl (hw _ (List.mem_of_getElem? (i := 51) rfl))) (by decide) (t := (.array .byte)) (t' := .int) (by decide) (by decide))))
    have c30 : Arv Z h25 l28 k28 .byte ((0 : Int32) + (z - s)) vc19 (.int (0 : Int32)) := (Vd19.other W25 (Ne.symm ne_ol8))
    have c31 : Exa Z h25 l28 "[B" := ((El8.keep Kc19).wr W25)
    exact ⟨rfl, N25, K25, c28, Fw25, ⟨_, _, _, sz_l28, c29, c30, c31⟩, (fun F n_line n_size => (((bt8 F n_line).keep Kc19 (ninS ne_ol8 nin0)).other W25 (Or.inr n_size)))⟩
theorem d7_21 : decode prog_163_method_8_code 21 = .ok (.return_, 1) := by decide +kernel
theorem ef_rmkeep0 (m : MethodId) (x0 : Addr) (x1 : Int32) : entryFrame m #[(.ref x0), (.int x1)] 3 = mkF m 0 #[.val (.ref x0), .val (.int x1), .unset] [] := by first | (simp [entryFrame, mkF, argsToLocals, Value.category]; done) | rfl
def Qkeep0 (Z : State) (ob : Addr) (z : Int32) (h0 : Heap) (n0 : Nat) (v : Option Value) (h : Heap) (L : List Loc) : Prop := v = none ∧ Fr n0 L ∧ h = h0
set_option maxRecDepth 65536 in
set_option maxHeartbeats 40000000 in
theorem rmkeep0 (l : Launch) (Z : State) (a0 : Array Value) (hw : ∀ d ∈ tables_1, d.before a0 Z = true) (ws : List Jvm.Cond) (ob : Addr) (z : Int32) (h0 : Heap) (n0 : Nat) (Z0 : n0 ≤ h0.size) (F_start : Fld Z h0 ob "quorumkeep/store/Messages$Reader" "start" "I" (.int z)) (F_size : Fld Z h0 ob "quorumkeep/store/Messages$Reader" "size" "I" (.int (0 : Int32))) :
    MetFree l (⟨"quorumkeep/store/Messages$Reader", "keep", "(I)V"⟩ : MethodName) (head1 (Jvm.Cond.code (⟨"quorumkeep/store/Messages$Reader", "keep", "(I)V"⟩ : MethodName) prog_163_method_8_code 3 none :: ws) ({ frames := 1, cells := 0, slots := 0, locals := 13 } : Room)) (fun a U => a = #[(.ref ob), (.int z)] ∧ Z.Warmed39 U.vm ∧ U.heap = h0) (fun _ _ _ _ _ => True) (fun _ U o U' => ∃ v L, o = .returned v ∧ Qkeep0 Z ob z h0 n0 v U'.heap L ∧ FrameEnd U o U' L ({ frames := 1, cells := 0, slots := 0, locals := 13 } : Room).cells ({ frames := 1, cells := 0, slots := 0, locals := 13 } : Room).slots) := by
  refine MetFree.of_bodySF (plainFor_of_name pn_1) hisR ?_
  intro p e s0 m args below meth c s₁ Bd hml0 hP hK
  obtain ⟨rfl, hZ, hh⟩ := hP
  have hx := Bd.exec
  have hby := Bd.bytes
  have hml : c.maxLocals = 3 := hml0
  have hown : s0.vm.findClass "quorumkeep/store/Messages$Reader" = some m.cls := findClass_of_methodNamed Bd.named
  have hnm := (name_of_methodNamed Bd.named Bd.method).1
  have X0 : Stand p l e ({ frames := 1, cells := 0, slots := 0, locals := 13 } : Room) s0 m #[(.ref ob), (.int z)] below meth c s₁ [] 0 0 := Stand.of_body Bd
  have e0 : s₁.heap = h0 := by rw [← hh, Bd.state]; rfl
  have N0 := Fr.nil n0
  have pre0 : ∀ t, Steps p.tables e below (s₁.setTop (mkF m 0 #[.val (.ref ob), .val (.int z), .unset] [])) t → Steps p.tables e below (s₁.setTop (entryFrame m #[(.ref ob), (.int z)] 3)) t := fun t k => castTop (ef_rmkeep0 m ob z) k
  obtain ⟨T1, X1, e1, st1⟩ := getF X0 hx hZ hown (host := "") (Or.inl (hw _ (List.mem_of_getElem? (i := 36) rfl))) Via.refl e0 F_start (g := (mkF m 2 #[.val (.ref ob), .val (.int z), .unset] [(.ref ob), (.int z)])) rfl rfl (hb hby d7_2)
  obtain ⟨T2, X2, e2, st2⟩ := getF X1 hx hZ hown (host := "") (Or.inl (hw _ (List.mem_of_getElem? (i := 50) rfl))) Via.refl e1 F_size (g := (mkF m 9 #[.val (.ref ob), .val (.int z), .unset] [(.ref ob), (.int (4194306 : Int32)), (.int (z - z))])) rfl rfl (hb hby d7_9)
  obtain ⟨_, _, ⟨T3, L3, k3, n3⟩, -, X3, ⟨Lc3, hQ3, l3, y3, z3⟩, st3⟩ := Jvm.LawKit.callS X2 hx (y := (⟨"java/lang/Math", "min", "(II)I"⟩ : MethodName)) hown (mvT hZ (hw _ (List.mem_of_getElem? (i := 59) rfl))) (mvT hZ (hw _ (List.mem_of_getElem? (i := 60) rfl))) (mvT hZ (hw _ (List.mem_of_getElem? (i := 61) rfl))) (mvT hZ (hw _ (List.mem_of_getElem? (i := 62) rfl))) (by decide) (backOf (W := 0) (rmmin l Z a0 hw [] (z - z) ((4194306 : Int32) - (0 : Int32)) (0 : Int32) h0 n0 Z0 (own_k0 z)) hZ (hw _ (List.mem_of_getElem? (i := 62) rfl)) (hw _ (List.mem_of_getElem? (i := 61) rfl)) (by decide) (by decide)) (g := (mkF m 13 #[.val (.ref ob), .val (.int z), .unset] [(.int ((4194306 : Int32) - (0 : Int32))), (.int (z - z))])) rfl (by rw [hml]; rfl) (argsL := [(.int (z - z)), (.int ((4194306 : Int32) - (0 : Int32)))]) (rest := []) (lenOf pd_2 rfl) rfl (by show 2 * 0 + _ ≤ _; exact Nat.le_of_eq rfl) (hb hby d7_13) (fun _ _ => ⟨rfl, e2, (by decide : 0 + 0 ≤ _), (by decide : 0 + 0 ≤ _)⟩)
  dsimp only [Pt.U, Pt.locs, Pt.cells, Pt.slots] at X3 l3 y3 z3 st3 hQ3
  subst l3 y3 z3
  obtain ⟨rfl, Nq3, hh3⟩ := hQ3
  have N3 := Fr.app N0 Nq3
  have e3 : T3.heap = h0 := hh3
  have pre4 : ∀ t, Steps p.tables e below (T3.setTop (mkF m 21 #[.val (.ref ob), .val (.int z), .val (.int (0 : Int32))] [])) t → Steps p.tables e below (s₁.setTop (entryFrame m #[(.ref ob), (.int z)] 3)) t := fun t k => by
    refine pre0 t ?_
    show Steps p.tables e below (s₁.setTop (mkF m 0 #[.val (.ref ob), .val (.int z), .unset] [])) _
    refine XS.iloadN X0.here hx rfl (hb hby d7_0) rfl ?_
    show Steps p.tables e below (s₁.setTop (mkF m 1 #[.val (.ref ob), .val (.int z), .unset] [(.int z)])) _
    refine XS.aloadN X0.here hx rfl (hb hby d7_1) rfl rfl ?_
    show Steps p.tables e below (s₁.setTop (mkF m 2 #[.val (.ref ob), .val (.int z), .unset] [(.ref ob), (.int z)])) _
    refine st1 _ ?_
    show Steps p.tables e below (T1.setTop (mkF m 5 #[.val (.ref ob), .val (.int z), .unset] [(.int z), (.int z)])) _
    refine XS.isub X1.here hx rfl (hb hby d7_5) rfl ?_
    show Steps p.tables e below (T1.setTop (mkF m 6 #[.val (.ref ob), .val (.int z), .unset] [(.int (z - z))])) _
    refine X1.ldcInt hx hown (mvT hZ (hw _ (List.mem_of_getElem? (i := 52) rfl))) (g := (mkF m 6 #[.val (.ref ob), .val (.int z), .unset] [(.int (z - z))])) rfl (hb hby d7_6) _ ?_
    show Steps p.tables e below (T1.setTop (mkF m 8 #[.val (.ref ob), .val (.int z), .unset] [(.int (4194306 : Int32)), (.int (z - z))])) _
    refine XS.aloadN X1.here hx rfl (hb hby d7_8) rfl rfl ?_
    show Steps p.tables e below (T1.setTop (mkF m 9 #[.val (.ref ob), .val (.int z), .unset] [(.ref ob), (.int (4194306 : Int32)), (.int (z - z))])) _
    refine st2 _ ?_
    show Steps p.tables e below (T2.setTop (mkF m 12 #[.val (.ref ob), .val (.int z), .unset] [(.int (0 : Int32)), (.int (4194306 : Int32)), (.int (z - z))])) _
    refine XS.isub X2.here hx rfl (hb hby d7_12) rfl ?_
    show Steps p.tables e below (T2.setTop (mkF m 13 #[.val (.ref ob), .val (.int z), .unset] [(.int ((4194306 : Int32) - (0 : Int32))), (.int (z - z))])) _
    refine st3 _ ?_
    show Steps p.tables e below (T3.setTop (mkF m 16 #[.val (.ref ob), .val (.int z), .unset] [(.int (0 : Int32))])) _
    refine XS.istoreN X3.here hx rfl (hb hby d7_16) rfl (l' := #[.val (.ref ob), .val (.int z), .val (.int (0 : Int32))]) rfl ?_
    show Steps p.tables e below (T3.setTop (mkF m 17 #[.val (.ref ob), .val (.int z), .val (.int (0 : Int32))] [])) _
    refine XS.iloadN X3.here hx rfl (hb hby d7_17) rfl ?_
    show Steps p.tables e below (T3.setTop (mkF m 18 #[.val (.ref ob), .val (.int z), .val (.int (0 : Int32))] [(.int (0 : Int32))])) _
    refine XS.ifNo X3.here hx rfl (hb hby d7_18) rfl ((if0 _ _).trans (teq (by decide : (0 : Int32) = (0 : Int32))).2) ?_
    exact k
  obtain ⟨fs, hrq, hrun, hended, hW, hsame⟩ := X3.leave (v := none) (fun _ => rfl)
  refine ⟨_, _, pre4 _ ?_, hrun, hended, _, _, rfl, ?_, ⟨_, rfl⟩, hW, hsame.mono (by decide) (by decide)⟩
  · show Steps p.tables e below (T3.setTop (mkF m 21 #[.val (.ref ob), .val (.int z), .val (.int (0 : Int32))] [])) _
    exact X3.returnOut hx Bd.returns (hb hby d7_21) hrq
  · show Qkeep0 Z ob z h0 n0 _ T3.heap _
    rw [e3]
    exact ⟨rfl, N3, rfl⟩
theorem d18_0 : decode prog_163_method_10_code 0 = .ok (.aload_n 0, 1) := by decide +kernel
theorem d18_1 : decode prog_163_method_10_code 1 = .ok (.getfield 116, 3) := by decide +kernel
theorem d18_4 : decode prog_163_method_10_code 4 = .ok (.ifCond .le 19, 3) := by decide +kernel
theorem d18_23 : decode prog_163_method_10_code 23 = .ok (.aload_n 0, 1) := by decide +kernel
theorem d18_24 : decode prog_163_method_10_code 24 = .ok (.getfield 20, 3) := by decide +kernel
theorem d18_27 : decode prog_163_method_10_code 27 = .ok (.iload_n 1, 1) := by decide +kernel
theorem d18_28 : decode prog_163_method_10_code 28 = .ok (.invokestatic 133, 3) := by decide +kernel
theorem d18_31 : decode prog_163_method_10_code 31 = .ok (.areturn, 1) := by decide +kernel
theorem ef_rmmsg (m : MethodId) (x0 : Addr) (x1 : Int32) : entryFrame m #[(.ref x0), (.int x1)] 2 = mkF m 0 #[.val (.ref x0), .val (.int x1)] [] := by first | (simp [entryFrame, mkF, argsToLocals, Value.category]; done) | rfl
def Qmsg (Z : State) (ob : Addr) (p1 : Int32) (ln : Addr) (kl : ClassId) (vs : List Value) (dv : Value) (h0 : Heap) (n0 : Nat) (v : Option Value) (h : Heap) (L : List Loc) : Prop := ∃ x : Addr, v = some (.ref x) ∧ Fr n0 L ∧ Keep h0 h []
set_option maxRecDepth 65536 in
set_option maxHeartbeats 40000000 in
theorem rmmsg (l : Launch) (Z : State) (a0 : Array Value) (hw : ∀ d ∈ tables_1, d.before a0 Z = true) (ws : List Jvm.Cond) (ob : Addr) (p1 : Int32) (ln : Addr) (kl : ClassId) (vs : List Value) (dv : Value) (h0 : Heap) (n0 : Nat) (Z0 : n0 ≤ h0.size) (F_held : Fld Z h0 ob "quorumkeep/store/Messages$Reader" "held" "I" (.int (0 : Int32))) (F_line : Fld Z h0 ob "quorumkeep/store/Messages$Reader" "line" "[B" (.ref ln)) (V_ln : Arv Z h0 ln kl .byte p1 vs dv) (E_ln : Exa Z h0 ln "[B") (hp : p1.toNatClampNeg ≤ 4) :
    MetFree l (⟨"quorumkeep/store/Messages$Reader", "message", "(I)[B"⟩ : MethodName) (head1 (Jvm.Cond.code (⟨"quorumkeep/store/Messages$Reader", "message", "(I)[B"⟩ : MethodName) prog_163_method_10_code 2 (some (.array .byte)) :: ws) ({ frames := 2, cells := 1, slots := 4, locals := 28 } : Room)) (fun a U => a = #[(.ref ob), (.int p1)] ∧ Z.Warmed39 U.vm ∧ U.heap = h0) (fun _ _ _ _ _ => True) (fun _ U o U' => ∃ v L, o = .returned v ∧ Qmsg Z ob p1 ln kl vs dv h0 n0 v U'.heap L ∧ FrameEnd U o U' L ({ frames := 2, cells := 1, slots := 4, locals := 28 } : Room).cells ({ frames := 2, cells := 1, slots := 4, locals := 28 } : Room).slots) := by
  refine MetFree.of_bodySF (plainFor_of_name pn_1) hisR ?_
  intro p e s0 m args below meth c s₁ Bd hml0 hP hK
  obtain ⟨rfl, hZ, hh⟩ := hP
  have hx := Bd.exec
  have hby := Bd.bytes
  have hml : c.maxLocals = 2 := hml0
  have hown : s0.vm.findClass "quorumkeep/store/Messages$Reader" = some m.cls := findClass_of_methodNamed Bd.named
  have hnm := (name_of_methodNamed Bd.named Bd.method).1
  have X0 : Stand p l e ({ frames := 2, cells := 1, slots := 4, locals := 28 } : Room) s0 m #[(.ref ob), (.int p1)] below meth c s₁ [] 0 0 := Stand.of_body Bd
  have e0 : s₁.heap = h0 := by rw [← hh, Bd.state]; rfl
  have N0 := Fr.nil n0
  have pre0 : ∀ t, Steps p.tables e below (s₁.setTop (mkF m 0 #[.val (.ref ob), .val (.int p1)] [])) t → Steps p.tables e below (s₁.setTop (entryFrame m #[(.ref ob), (.int p1)] 2)) t := fun t k => castTop (ef_rmmsg m ob p1) k
  obtain ⟨T1, X1, e1, st1⟩ := getF X0 hx hZ hown (host := "") (Or.inl (hw _ (List.mem_of_getElem? (i := 48) rfl))) Via.refl e0 F_held (g := (mkF m 1 #[.val (.ref ob), .val (.int p1)] [(.ref ob)])) rfl rfl (hb hby d18_1)
  obtain ⟨T2, X2, e2, st2⟩ := getF X1 hx hZ hown (host := "") (Or.inl (hw _ (List.mem_of_getElem? (i := 17) rfl))) Via.refl e1 F_line (g := (mkF m 24 #[.val (.ref ob), .val (.int p1)] [(.ref ob)])) rfl rfl (hb hby d18_24)
  obtain ⟨_, _, ⟨T3, L3, k3, n3⟩, -, X3, ⟨Lc3, hQ3, l3, y3, z3⟩, st3⟩ := Jvm.LawKit.callS X2 hx (y := (⟨"java/util/Arrays", "copyOf", "([BI)[B"⟩ : MethodName)) hown (mvT hZ (hw _ (List.mem_of_getElem? (i := 97) rfl))) (mvT hZ (hw _ (List.mem_of_getElem? (i := 98) rfl))) (mvT hZ (hw _ (List.mem_of_getElem? (i := 77) rfl))) (mvT hZ (hw _ (List.mem_of_getElem? (i := 99) rfl))) (by decide) (backOf (W := 0) (rmcoC l Z a0 hw [] ln p1 kl vs dv h0 n0 Z0 V_ln E_ln hp) hZ (hw _ (List.mem_of_getElem? (i := 99) rfl)) (hw _ (List.mem_of_getElem? (i := 77) rfl)) (by decide) (by decide)) (g := (mkF m 28 #[.val (.ref ob), .val (.int p1)] [(.int p1), (.ref ln)])) rfl (by rw [hml]; rfl) (argsL := [(.ref ln), (.int p1)]) (rest := []) (lenOf pd_4 rfl) rfl (by show 2 * 0 + _ ≤ _; exact Nat.le_of_eq rfl) (hb hby d18_28) (fun _ _ => ⟨rfl, e2, (by decide : 0 + 1 ≤ _), (by decide : 0 + 4 ≤ _)⟩)
  dsimp only [Pt.U, Pt.locs, Pt.cells, Pt.slots] at X3 l3 y3 z3 st3 hQ3
  subst l3 y3 z3
  obtain ⟨x3, rfl, Nq3, Kq3⟩ := hQ3
  have N3 := Fr.app N0 Nq3
  have Z4 : n0 ≤ T3.heap.size := Nat.le_trans Z0 Kq3.1
  have K5 : Keep h0 T3.heap [] := (Keep.refl h0 []).trans Kq3 all0
  have pre6 : ∀ t, Steps p.tables e below (T3.setTop (mkF m 31 #[.val (.ref ob), .val (.int p1)] [(.ref x3)])) t → Steps p.tables e below (s₁.setTop (entryFrame m #[(.ref ob), (.int p1)] 2)) t := fun t k => by
    refine pre0 t ?_
    show Steps p.tables e below (s₁.setTop (mkF m 0 #[.val (.ref ob), .val (.int p1)] [])) _
    refine XS.aloadN X0.here hx rfl (hb hby d18_0) rfl rfl ?_
    show Steps p.tables e below (s₁.setTop (mkF m 1 #[.val (.ref ob), .val (.int p1)] [(.ref ob)])) _
    refine st1 _ ?_
    show Steps p.tables e below (T1.setTop (mkF m 4 #[.val (.ref ob), .val (.int p1)] [(.int (0 : Int32))])) _
    refine XS.ifYes X1.here hx rfl (pc0 := 4) (pc' := 23) rfl (hb hby d18_4) rfl ((if0 _ _).trans (flt (by decide : ¬ ((0 : Int32) < (0 : Int32)))).2.2.2) (by decide) (by decide) ?_
    show Steps p.tables e below (T1.setTop (mkF m 23 #[.val (.ref ob), .val (.int p1)] [])) _
    refine XS.aloadN X1.here hx rfl (hb hby d18_23) rfl rfl ?_
    show Steps p.tables e below (T1.setTop (mkF m 24 #[.val (.ref ob), .val (.int p1)] [(.ref ob)])) _
    refine st2 _ ?_
    show Steps p.tables e below (T2.setTop (mkF m 27 #[.val (.ref ob), .val (.int p1)] [(.ref ln)])) _
    refine XS.iloadN X2.here hx rfl (hb hby d18_27) rfl ?_
    show Steps p.tables e below (T2.setTop (mkF m 28 #[.val (.ref ob), .val (.int p1)] [(.int p1), (.ref ln)])) _
    refine st3 _ ?_
    exact k
  obtain ⟨fs, hrq, hrun, hended, hW, hsame⟩ := X3.leave (v := some (.ref x3)) (fun h => by rw [Bd.returns] at h; cases h)
  refine ⟨_, _, pre6 _ ?_, hrun, hended, _, _, rfl, ?_, ⟨_, rfl⟩, hW, hsame.mono (by decide) (by decide)⟩
  · show Steps p.tables e below (T3.setTop (mkF m 31 #[.val (.ref ob), .val (.int p1)] [(.ref x3)])) _
    exact retOut X3 hx Bd.returns rfl (Or.inr (Or.inr (Or.inr (Or.inr ⟨rfl, rfl, rfl⟩)))) (hb hby d18_31) hrq
  · show Qmsg Z ob p1 ln kl vs dv h0 n0 _ T3.heap _
    exact ⟨_, rfl, N3, K5⟩
theorem d10_0 : decode method_4_code 0 = .ok (.aload_n 0, 1) := by decide +kernel
theorem d10_1 : decode method_4_code 1 = .ok (.arraylength, 1) := by decide +kernel
theorem d10_2 : decode method_4_code 2 = .ok (.istore_n 2, 1) := by decide +kernel
theorem d10_3 : decode method_4_code 3 = .ok (.iload_n 1, 1) := by decide +kernel
theorem d10_4 : decode method_4_code 4 = .ok (.ifCond .gt 18, 3) := by decide +kernel
theorem d10_7 : decode method_4_code 7 = .ok (.iconst 0, 1) := by decide +kernel
theorem d10_8 : decode method_4_code 8 = .ok (.iload_n 2, 1) := by decide +kernel
theorem d10_9 : decode method_4_code 9 = .ok (.if_icmp .ge 13, 3) := by decide +kernel
theorem d10_12 : decode method_4_code 12 = .ok (.aload_n 0, 1) := by decide +kernel
theorem d10_13 : decode method_4_code 13 = .ok (.iconst 0, 1) := by decide +kernel
theorem d10_14 : decode method_4_code 14 = .ok (.baload, 1) := by decide +kernel
theorem d10_15 : decode method_4_code 15 = .ok (.bipush 10, 2) := by decide +kernel
theorem d10_17 : decode method_4_code 17 = .ok (.if_icmp .ne 5, 3) := by decide +kernel
theorem d10_20 : decode method_4_code 20 = .ok (.iconst 1, 1) := by decide +kernel
theorem d10_21 : decode method_4_code 21 = .ok (.ireturn, 1) := by decide +kernel
theorem d10_22 : decode method_4_code 22 = .ok (.iload_n 1, 1) := by decide +kernel
theorem d10_23 : decode method_4_code 23 = .ok (.iconst 1, 1) := by decide +kernel
theorem d10_24 : decode method_4_code 24 = .ok (.if_icmp .gt 18, 3) := by decide +kernel
theorem d10_27 : decode method_4_code 27 = .ok (.iconst 1, 1) := by decide +kernel
theorem d10_28 : decode method_4_code 28 = .ok (.iload_n 2, 1) := by decide +kernel
theorem d10_29 : decode method_4_code 29 = .ok (.if_icmp .ge 13, 3) := by decide +kernel
theorem d10_32 : decode method_4_code 32 = .ok (.aload_n 0, 1) := by decide +kernel
theorem d10_33 : decode method_4_code 33 = .ok (.iconst 1, 1) := by decide +kernel
theorem d10_34 : decode method_4_code 34 = .ok (.baload, 1) := by decide +kernel
theorem d10_35 : decode method_4_code 35 = .ok (.bipush 10, 2) := by decide +kernel
theorem d10_37 : decode method_4_code 37 = .ok (.if_icmp .ne 5, 3) := by decide +kernel
theorem d10_40 : decode method_4_code 40 = .ok (.iconst 2, 1) := by decide +kernel
theorem d10_41 : decode method_4_code 41 = .ok (.ireturn, 1) := by decide +kernel
theorem d10_42 : decode method_4_code 42 = .ok (.iload_n 1, 1) := by decide +kernel
theorem d10_43 : decode method_4_code 43 = .ok (.iconst 2, 1) := by decide +kernel
theorem d10_44 : decode method_4_code 44 = .ok (.if_icmp .gt 18, 3) := by decide +kernel
theorem d10_47 : decode method_4_code 47 = .ok (.iconst 2, 1) := by decide +kernel
theorem d10_48 : decode method_4_code 48 = .ok (.iload_n 2, 1) := by decide +kernel
theorem d10_49 : decode method_4_code 49 = .ok (.if_icmp .ge 13, 3) := by decide +kernel
theorem d10_52 : decode method_4_code 52 = .ok (.aload_n 0, 1) := by decide +kernel
theorem d10_53 : decode method_4_code 53 = .ok (.iconst 2, 1) := by decide +kernel
theorem d10_54 : decode method_4_code 54 = .ok (.baload, 1) := by decide +kernel
theorem d10_55 : decode method_4_code 55 = .ok (.bipush 10, 2) := by decide +kernel
theorem d10_57 : decode method_4_code 57 = .ok (.if_icmp .ne 5, 3) := by decide +kernel
theorem d10_60 : decode method_4_code 60 = .ok (.iconst 3, 1) := by decide +kernel
theorem d10_61 : decode method_4_code 61 = .ok (.ireturn, 1) := by decide +kernel
theorem d10_62 : decode method_4_code 62 = .ok (.iload_n 1, 1) := by decide +kernel
theorem d10_63 : decode method_4_code 63 = .ok (.iconst 3, 1) := by decide +kernel
theorem d10_64 : decode method_4_code 64 = .ok (.if_icmp .gt 18, 3) := by decide +kernel
theorem d10_67 : decode method_4_code 67 = .ok (.iconst 3, 1) := by decide +kernel
theorem d10_68 : decode method_4_code 68 = .ok (.iload_n 2, 1) := by decide +kernel
theorem d10_69 : decode method_4_code 69 = .ok (.if_icmp .ge 13, 3) := by decide +kernel
theorem d10_72 : decode method_4_code 72 = .ok (.aload_n 0, 1) := by decide +kernel
theorem d10_73 : decode method_4_code 73 = .ok (.iconst 3, 1) := by decide +kernel
theorem d10_74 : decode method_4_code 74 = .ok (.baload, 1) := by decide +kernel
theorem d10_75 : decode method_4_code 75 = .ok (.bipush 10, 2) := by decide +kernel
theorem d10_77 : decode method_4_code 77 = .ok (.if_icmp .ne 5, 3) := by decide +kernel
theorem d10_80 : decode method_4_code 80 = .ok (.iconst 4, 1) := by decide +kernel
theorem d10_81 : decode method_4_code 81 = .ok (.ireturn, 1) := by decide +kernel
theorem d10_82 : decode method_4_code 82 = .ok (.iload_n 2, 1) := by decide +kernel
theorem d10_83 : decode method_4_code 83 = .ok (.ireturn, 1) := by decide +kernel
theorem ef_rmafter (m : MethodId) (x0 : Addr) (x1 : Int32) : entryFrame m #[(.ref x0), (.int x1)] 3 = mkF m 0 #[.val (.ref x0), .val (.int x1), .unset] [] := by first | (simp [entryFrame, mkF, argsToLocals, Value.category]; done) | rfl
def Qafter (Z : State) (ar : Addr) (s : Int32) (kk : ClassId) (z : Int32) (vs : List Value) (dv : Value) (h0 : Heap) (n0 : Nat) (v : Option Value) (h : Heap) (L : List Loc) : Prop := v = some (.int (own_after vs dv z s)) ∧ Fr n0 L ∧ h = h0
set_option maxRecDepth 65536 in
set_option maxHeartbeats 40000000 in
theorem rmafter (l : Launch) (Z : State) (a0 : Array Value) (hw : ∀ d ∈ tables_1, d.before a0 Z = true) (ws : List Jvm.Cond) (ar : Addr) (s : Int32) (kk : ClassId) (z : Int32) (vs : List Value) (dv : Value) (h0 : Heap) (n0 : Nat) (Z0 : n0 ≤ h0.size) (V_ar : Arv Z h0 ar kk .byte z vs dv) :
    MetFree l (⟨"quorumkeep/store/ReaderMostMessagesLeftPinLaw", "after", "([BI)I"⟩ : MethodName) (head1 (Jvm.Cond.code (⟨"quorumkeep/store/ReaderMostMessagesLeftPinLaw", "after", "([BI)I"⟩ : MethodName) method_4_code 3 (some .int) :: ws) ({ frames := 0, cells := 0, slots := 0, locals := 0 } : Room)) (fun a U => a = #[(.ref ar), (.int s)] ∧ Z.Warmed39 U.vm ∧ U.heap = h0) (fun _ _ _ _ _ => True) (fun _ U o U' => ∃ v L, o = .returned v ∧ Qafter Z ar s kk z vs dv h0 n0 v U'.heap L ∧ FrameEnd U o U' L ({ frames := 0, cells := 0, slots := 0, locals := 0 } : Room).cells ({ frames := 0, cells := 0, slots := 0, locals := 0 } : Room).slots) := by
  refine MetFree.of_bodySF (plainFor_of_name pn_0) hisR ?_
  intro p e s0 m args below meth c s₁ Bd hml0 hP hK
  obtain ⟨rfl, hZ, hh⟩ := hP
  have hx := Bd.exec
  have hby := Bd.bytes
  have hml : c.maxLocals = 3 := hml0
  have hown : s0.vm.findClass "quorumkeep/store/ReaderMostMessagesLeftPinLaw" = some m.cls := findClass_of_methodNamed Bd.named
  have hnm := (name_of_methodNamed Bd.named Bd.method).1
  have X0 : Stand p l e ({ frames := 0, cells := 0, slots := 0, locals := 0 } : Room) s0 m #[(.ref ar), (.int s)] below meth c s₁ [] 0 0 := Stand.of_body Bd
  have e0 : s₁.heap = h0 := by rw [← hh, Bd.state]; rfl
  have N0 := Fr.nil n0
  have pre0 : ∀ t, Steps p.tables e below (s₁.setTop (mkF m 0 #[.val (.ref ar), .val (.int s), .unset] [])) t → Steps p.tables e below (s₁.setTop (entryFrame m #[(.ref ar), (.int s)] 3)) t := fun t k => castTop (ef_rmafter m ar s) k
  obtain ⟨cl1, Ar1, -, Sz1, Nz1, -, -⟩ := id V_ar
  have pre2 : ∀ t, Steps p.tables e below (s₁.setTop (mkF m 3 #[.val (.ref ar), .val (.int s), .val (.int z)] [])) t → Steps p.tables e below (s₁.setTop (entryFrame m #[(.ref ar), (.int s)] 3)) t := fun t k => by
    refine pre0 t ?_
    show Steps p.tables e below (s₁.setTop (mkF m 0 #[.val (.ref ar), .val (.int s), .unset] [])) _
    refine XS.aloadN X0.here hx rfl (hb hby d10_0) rfl rfl ?_
    show Steps p.tables e below (s₁.setTop (mkF m 1 #[.val (.ref ar), .val (.int s), .unset] [(.ref ar)])) _
    refine X0.arraylength hx (by rw [e0]; exact Ar1.1) (State.isArrayOf_alike hZ.alike Ar1.2.1) (g := (mkF m 1 #[.val (.ref ar), .val (.int s), .unset] [(.ref ar)])) rfl rfl (hb hby d10_1) _ ?_
    rw [len_of Sz1 Nz1]
    show Steps p.tables e below (s₁.setTop (mkF m 2 #[.val (.ref ar), .val (.int s), .unset] [(.int z)])) _
    refine XS.istoreN X0.here hx rfl (hb hby d10_2) rfl (l' := #[.val (.ref ar), .val (.int s), .val (.int z)]) rfl ?_
    exact k
  by_cases hA0 : (¬ ((0 : Int32) < s) ∧ (0 : Int32) < z ∧ (own_b vs dv (0 : Int32)) = (10 : Int32))
  · obtain ⟨cl3, Ar3, -, Sz3, Nz3, Hs3, Gs3⟩ := id V_ar
    have hin3 : ¬ ((0 : Int32) < 0 ∨ cl3.slots.size ≤ ((0 : Int32)).toNatClampNeg) := inb_of Sz3 ⟨by decide, hA0.2.1⟩
    have hat3 : cl3.slots[((0 : Int32)).toNatClampNeg]? = some (.int (own_b vs dv (0 : Int32))) := Hs3.at hin3 (own_bat Gs3 hin3)
    have pre4 : ∀ t, Steps p.tables e below (s₁.setTop (mkF m 21 #[.val (.ref ar), .val (.int s), .val (.int z)] [(.int (1 : Int32))])) t → Steps p.tables e below (s₁.setTop (entryFrame m #[(.ref ar), (.int s)] 3)) t := fun t k => by
      refine pre2 t ?_
      show Steps p.tables e below (s₁.setTop (mkF m 3 #[.val (.ref ar), .val (.int s), .val (.int z)] [])) _
      refine XS.iloadN X0.here hx rfl (hb hby d10_3) rfl ?_
      show Steps p.tables e below (s₁.setTop (mkF m 4 #[.val (.ref ar), .val (.int s), .val (.int z)] [(.int s)])) _
      refine XS.ifNo X0.here hx rfl (hb hby d10_4) rfl ((if0 _ _).trans (flt (hA0.1 : ¬ ((0 : Int32) < s))).2.2.1) ?_
      show Steps p.tables e below (s₁.setTop (mkF m 7 #[.val (.ref ar), .val (.int s), .val (.int z)] [])) _
      refine XS.iconst X0.here hx rfl (hb hby d10_7) ?_
      show Steps p.tables e below (s₁.setTop (mkF m 8 #[.val (.ref ar), .val (.int s), .val (.int z)] [(.int (0 : Int32))])) _
      refine XS.iloadN X0.here hx rfl (hb hby d10_8) rfl ?_
      show Steps p.tables e below (s₁.setTop (mkF m 9 #[.val (.ref ar), .val (.int s), .val (.int z)] [(.int z), (.int (0 : Int32))])) _
      refine XS.icmpNo X0.here hx rfl (hb hby d10_9) rfl (tlt (hA0.2.1 : (0 : Int32) < z)).2.1 ?_
      show Steps p.tables e below (s₁.setTop (mkF m 12 #[.val (.ref ar), .val (.int s), .val (.int z)] [])) _
      refine XS.aloadN X0.here hx rfl (hb hby d10_12) rfl rfl ?_
      show Steps p.tables e below (s₁.setTop (mkF m 13 #[.val (.ref ar), .val (.int s), .val (.int z)] [(.ref ar)])) _
      refine XS.iconst X0.here hx rfl (hb hby d10_13) ?_
      show Steps p.tables e below (s₁.setTop (mkF m 14 #[.val (.ref ar), .val (.int s), .val (.int z)] [(.int (0 : Int32)), (.ref ar)])) _
      refine X0.baloadBytes hx (j := (0 : Int32)) (v := (.int (own_b vs dv (0 : Int32)))) (by rw [e0]; exact Ar3.1) (State.isArrayOf_alike hZ.alike Ar3.2.1) Ar3.2.2 hin3 hat3 (g := (mkF m 14 #[.val (.ref ar), .val (.int s), .val (.int z)] [(.int (0 : Int32)), (.ref ar)])) rfl rfl (hb hby d10_14) _ ?_
      show Steps p.tables e below (s₁.setTop (mkF m 15 #[.val (.ref ar), .val (.int s), .val (.int z)] [(.int (own_b vs dv (0 : Int32)))])) _
      refine XS.bipush X0.here hx rfl (hb hby d10_15) ?_
      show Steps p.tables e below (s₁.setTop (mkF m 17 #[.val (.ref ar), .val (.int s), .val (.int z)] [(.int (10 : Int32)), (.int (own_b vs dv (0 : Int32)))])) _
      refine XS.icmpNo X0.here hx rfl (hb hby d10_17) rfl (teq (hA0.2.2 : (own_b vs dv (0 : Int32)) = (10 : Int32))).2 ?_
      show Steps p.tables e below (s₁.setTop (mkF m 20 #[.val (.ref ar), .val (.int s), .val (.int z)] [])) _
      refine XS.iconst X0.here hx rfl (hb hby d10_20) ?_
      exact k
    obtain ⟨fs, hrq, hrun, hended, hW, hsame⟩ := X0.leave (v := some (.int (1 : Int32))) (fun h => by rw [Bd.returns] at h; cases h)
    refine ⟨_, _, pre4 _ ?_, hrun, hended, _, _, rfl, ?_, ⟨_, rfl⟩, hW, hsame.mono (by decide) (by decide)⟩
    · show Steps p.tables e below (s₁.setTop (mkF m 21 #[.val (.ref ar), .val (.int s), .val (.int z)] [(.int (1 : Int32))])) _
      exact retI X0 hx Bd.returns (hb hby d10_21) hrq
    · show Qafter Z ar s kk z vs dv h0 n0 _ s₁.heap _
      rw [e0]
      exact ⟨by simp only [own_after, if_pos hA0], N0, rfl⟩
  · obtain ⟨T5, Lx5, X5, e5, N5, pre5⟩ : ∃ (T5 : State) (Lx5 : List Loc), Stand p l e ({ frames := 0, cells := 0, slots := 0, locals := 0 } : Room) s0 m #[(.ref ar), (.int s)] below meth c T5 Lx5 0 0 ∧ T5.heap = h0 ∧ Fr n0 Lx5 ∧ (∀ t, Steps p.tables e below (T5.setTop (mkF m 22 #[.val (.ref ar), .val (.int s), .val (.int z)] [])) t → Steps p.tables e below (s₁.setTop (entryFrame m #[(.ref ar), (.int s)] 3)) t) := by
      have pre6 : ∀ t, Steps p.tables e below (s₁.setTop (mkF m 4 #[.val (.ref ar), .val (.int s), .val (.int z)] [(.int s)])) t → Steps p.tables e below (s₁.setTop (entryFrame m #[(.ref ar), (.int s)] 3)) t := fun t k => by
        refine pre2 t ?_
        show Steps p.tables e below (s₁.setTop (mkF m 3 #[.val (.ref ar), .val (.int s), .val (.int z)] [])) _
        refine XS.iloadN X0.here hx rfl (hb hby d10_3) rfl ?_
        exact k
      by_cases hc4_7 : (0 : Int32) < s
      · have pre8 : ∀ t, Steps p.tables e below (s₁.setTop (mkF m 22 #[.val (.ref ar), .val (.int s), .val (.int z)] [])) t → Steps p.tables e below (s₁.setTop (entryFrame m #[(.ref ar), (.int s)] 3)) t := fun t k => by
          refine pre6 t ?_
          show Steps p.tables e below (s₁.setTop (mkF m 4 #[.val (.ref ar), .val (.int s), .val (.int z)] [(.int s)])) _
          refine XS.ifYes X0.here hx rfl (pc0 := 4) (pc' := 22) rfl (hb hby d10_4) rfl ((if0 _ _).trans (tlt hc4_7).2.2.1) (by decide) (by decide) ?_
          exact k
        exact ⟨s₁, _, X0, e0, N0, pre8⟩
      · have pre9 : ∀ t, Steps p.tables e below (s₁.setTop (mkF m 9 #[.val (.ref ar), .val (.int s), .val (.int z)] [(.int z), (.int (0 : Int32))])) t → Steps p.tables e below (s₁.setTop (entryFrame m #[(.ref ar), (.int s)] 3)) t := fun t k => by
          refine pre6 t ?_
          show Steps p.tables e below (s₁.setTop (mkF m 4 #[.val (.ref ar), .val (.int s), .val (.int z)] [(.int s)])) _
          refine XS.ifNo X0.here hx rfl (hb hby d10_4) rfl ((if0 _ _).trans (flt hc4_7).2.2.1) ?_
          show Steps p.tables e below (s₁.setTop (mkF m 7 #[.val (.ref ar), .val (.int s), .val (.int z)] [])) _
          refine XS.iconst X0.here hx rfl (hb hby d10_7) ?_
          show Steps p.tables e below (s₁.setTop (mkF m 8 #[.val (.ref ar), .val (.int s), .val (.int z)] [(.int (0 : Int32))])) _
          refine XS.iloadN X0.here hx rfl (hb hby d10_8) rfl ?_
          exact k
        by_cases hc9_10 : (0 : Int32) < z
        · obtain ⟨cl11, Ar11, -, Sz11, Nz11, Hs11, Gs11⟩ := id V_ar
          have hin11 : ¬ ((0 : Int32) < 0 ∨ cl11.slots.size ≤ ((0 : Int32)).toNatClampNeg) := inb_of Sz11 ⟨by decide, hc9_10⟩
          have hat11 : cl11.slots[((0 : Int32)).toNatClampNeg]? = some (.int (own_b vs dv (0 : Int32))) := Hs11.at hin11 (own_bat Gs11 hin11)
          have pre12 : ∀ t, Steps p.tables e below (s₁.setTop (mkF m 17 #[.val (.ref ar), .val (.int s), .val (.int z)] [(.int (10 : Int32)), (.int (own_b vs dv (0 : Int32)))])) t → Steps p.tables e below (s₁.setTop (entryFrame m #[(.ref ar), (.int s)] 3)) t := fun t k => by
            refine pre9 t ?_
            show Steps p.tables e below (s₁.setTop (mkF m 9 #[.val (.ref ar), .val (.int s), .val (.int z)] [(.int z), (.int (0 : Int32))])) _
            refine XS.icmpNo X0.here hx rfl (hb hby d10_9) rfl (tlt hc9_10).2.1 ?_
            show Steps p.tables e below (s₁.setTop (mkF m 12 #[.val (.ref ar), .val (.int s), .val (.int z)] [])) _
            refine XS.aloadN X0.here hx rfl (hb hby d10_12) rfl rfl ?_
            show Steps p.tables e below (s₁.setTop (mkF m 13 #[.val (.ref ar), .val (.int s), .val (.int z)] [(.ref ar)])) _
            refine XS.iconst X0.here hx rfl (hb hby d10_13) ?_
            show Steps p.tables e below (s₁.setTop (mkF m 14 #[.val (.ref ar), .val (.int s), .val (.int z)] [(.int (0 : Int32)), (.ref ar)])) _
            refine X0.baloadBytes hx (j := (0 : Int32)) (v := (.int (own_b vs dv (0 : Int32)))) (by rw [e0]; exact Ar11.1) (State.isArrayOf_alike hZ.alike Ar11.2.1) Ar11.2.2 hin11 hat11 (g := (mkF m 14 #[.val (.ref ar), .val (.int s), .val (.int z)] [(.int (0 : Int32)), (.ref ar)])) rfl rfl (hb hby d10_14) _ ?_
            show Steps p.tables e below (s₁.setTop (mkF m 15 #[.val (.ref ar), .val (.int s), .val (.int z)] [(.int (own_b vs dv (0 : Int32)))])) _
            refine XS.bipush X0.here hx rfl (hb hby d10_15) ?_
            exact k
          by_cases hc17_13 : (own_b vs dv (0 : Int32)) = (10 : Int32)
          · exact absurd ⟨hc4_7, hc9_10, hc17_13⟩ hA0
          · have pre14 : ∀ t, Steps p.tables e below (s₁.setTop (mkF m 22 #[.val (.ref ar), .val (.int s), .val (.int z)] [])) t → Steps p.tables e below (s₁.setTop (entryFrame m #[(.ref ar), (.int s)] 3)) t := fun t k => by
              refine pre12 t ?_
              show Steps p.tables e below (s₁.setTop (mkF m 17 #[.val (.ref ar), .val (.int s), .val (.int z)] [(.int (10 : Int32)), (.int (own_b vs dv (0 : Int32)))])) _
              refine XS.icmpYes X0.here hx rfl (pc0 := 17) (pc' := 22) rfl (hb hby d10_17) rfl (feq hc17_13).2 (by decide) (by decide) ?_
              exact k
            exact ⟨s₁, _, X0, e0, N0, pre14⟩
        · have pre15 : ∀ t, Steps p.tables e below (s₁.setTop (mkF m 22 #[.val (.ref ar), .val (.int s), .val (.int z)] [])) t → Steps p.tables e below (s₁.setTop (entryFrame m #[(.ref ar), (.int s)] 3)) t := fun t k => by
            refine pre9 t ?_
            show Steps p.tables e below (s₁.setTop (mkF m 9 #[.val (.ref ar), .val (.int s), .val (.int z)] [(.int z), (.int (0 : Int32))])) _
            refine XS.icmpYes X0.here hx rfl (pc0 := 9) (pc' := 22) rfl (hb hby d10_9) rfl (flt hc9_10).2.1 (by decide) (by decide) ?_
            exact k
          exact ⟨s₁, _, X0, e0, N0, pre15⟩
    by_cases hA1 : (¬ ((1 : Int32) < s) ∧ (1 : Int32) < z ∧ (own_b vs dv (1 : Int32)) = (10 : Int32))
    · obtain ⟨cl16, Ar16, -, Sz16, Nz16, Hs16, Gs16⟩ := id V_ar
      have hin16 : ¬ ((1 : Int32) < 0 ∨ cl16.slots.size ≤ ((1 : Int32)).toNatClampNeg) := inb_of Sz16 ⟨by decide, hA1.2.1⟩
      have hat16 : cl16.slots[((1 : Int32)).toNatClampNeg]? = some (.int (own_b vs dv (1 : Int32))) := Hs16.at hin16 (own_bat Gs16 hin16)
      have pre17 : ∀ t, Steps p.tables e below (T5.setTop (mkF m 41 #[.val (.ref ar), .val (.int s), .val (.int z)] [(.int (2 : Int32))])) t → Steps p.tables e below (s₁.setTop (entryFrame m #[(.ref ar), (.int s)] 3)) t := fun t k => by
        refine pre5 t ?_
        show Steps p.tables e below (T5.setTop (mkF m 22 #[.val (.ref ar), .val (.int s), .val (.int z)] [])) _
        refine XS.iloadN X5.here hx rfl (hb hby d10_22) rfl ?_
        show Steps p.tables e below (T5.setTop (mkF m 23 #[.val (.ref ar), .val (.int s), .val (.int z)] [(.int s)])) _
        refine XS.iconst X5.here hx rfl (hb hby d10_23) ?_
        show Steps p.tables e below (T5.setTop (mkF m 24 #[.val (.ref ar), .val (.int s), .val (.int z)] [(.int (1 : Int32)), (.int s)])) _
        refine XS.icmpNo X5.here hx rfl (hb hby d10_24) rfl (flt (hA1.1 : ¬ ((1 : Int32) < s))).2.2.1 ?_
        show Steps p.tables e below (T5.setTop (mkF m 27 #[.val (.ref ar), .val (.int s), .val (.int z)] [])) _
        refine XS.iconst X5.here hx rfl (hb hby d10_27) ?_
        show Steps p.tables e below (T5.setTop (mkF m 28 #[.val (.ref ar), .val (.int s), .val (.int z)] [(.int (1 : Int32))])) _
        refine XS.iloadN X5.here hx rfl (hb hby d10_28) rfl ?_
        show Steps p.tables e below (T5.setTop (mkF m 29 #[.val (.ref ar), .val (.int s), .val (.int z)] [(.int z), (.int (1 : Int32))])) _
        refine XS.icmpNo X5.here hx rfl (hb hby d10_29) rfl (tlt (hA1.2.1 : (1 : Int32) < z)).2.1 ?_
        show Steps p.tables e below (T5.setTop (mkF m 32 #[.val (.ref ar), .val (.int s), .val (.int z)] [])) _
        refine XS.aloadN X5.here hx rfl (hb hby d10_32) rfl rfl ?_
        show Steps p.tables e below (T5.setTop (mkF m 33 #[.val (.ref ar), .val (.int s), .val (.int z)] [(.ref ar)])) _
        refine XS.iconst X5.here hx rfl (hb hby d10_33) ?_
        show Steps p.tables e below (T5.setTop (mkF m 34 #[.val (.ref ar), .val (.int s), .val (.int z)] [(.int (1 : Int32)), (.ref ar)])) _
        refine X5.baloadBytes hx (j := (1 : Int32)) (v := (.int (own_b vs dv (1 : Int32)))) (by rw [e5]; exact Ar16.1) (State.isArrayOf_alike hZ.alike Ar16.2.1) Ar16.2.2 hin16 hat16 (g := (mkF m 34 #[.val (.ref ar), .val (.int s), .val (.int z)] [(.int (1 : Int32)), (.ref ar)])) rfl rfl (hb hby d10_34) _ ?_
        show Steps p.tables e below (T5.setTop (mkF m 35 #[.val (.ref ar), .val (.int s), .val (.int z)] [(.int (own_b vs dv (1 : Int32)))])) _
        refine XS.bipush X5.here hx rfl (hb hby d10_35) ?_
        show Steps p.tables e below (T5.setTop (mkF m 37 #[.val (.ref ar), .val (.int s), .val (.int z)] [(.int (10 : Int32)), (.int (own_b vs dv (1 : Int32)))])) _
        refine XS.icmpNo X5.here hx rfl (hb hby d10_37) rfl (teq (hA1.2.2 : (own_b vs dv (1 : Int32)) = (10 : Int32))).2 ?_
        show Steps p.tables e below (T5.setTop (mkF m 40 #[.val (.ref ar), .val (.int s), .val (.int z)] [])) _
        refine XS.iconst X5.here hx rfl (hb hby d10_40) ?_
        exact k
      obtain ⟨fs, hrq, hrun, hended, hW, hsame⟩ := X5.leave (v := some (.int (2 : Int32))) (fun h => by rw [Bd.returns] at h; cases h)
      refine ⟨_, _, pre17 _ ?_, hrun, hended, _, _, rfl, ?_, ⟨_, rfl⟩, hW, hsame.mono (by decide) (by decide)⟩
      · show Steps p.tables e below (T5.setTop (mkF m 41 #[.val (.ref ar), .val (.int s), .val (.int z)] [(.int (2 : Int32))])) _
        exact retI X5 hx Bd.returns (hb hby d10_41) hrq
      · show Qafter Z ar s kk z vs dv h0 n0 _ T5.heap _
        rw [e5]
        exact ⟨by simp only [own_after, if_neg hA0, if_pos hA1], N5, rfl⟩
    · obtain ⟨T18, Lx18, X18, e18, N18, pre18⟩ : ∃ (T18 : State) (Lx18 : List Loc), Stand p l e ({ frames := 0, cells := 0, slots := 0, locals := 0 } : Room) s0 m #[(.ref ar), (.int s)] below meth c T18 Lx18 0 0 ∧ T18.heap = h0 ∧ Fr n0 Lx18 ∧ (∀ t, Steps p.tables e below (T18.setTop (mkF m 42 #[.val (.ref ar), .val (.int s), .val (.int z)] [])) t → Steps p.tables e below (s₁.setTop (entryFrame m #[(.ref ar), (.int s)] 3)) t) := by
        have pre19 : ∀ t, Steps p.tables e below (T5.setTop (mkF m 24 #[.val (.ref ar), .val (.int s), .val (.int z)] [(.int (1 : Int32)), (.int s)])) t → Steps p.tables e below (s₁.setTop (entryFrame m #[(.ref ar), (.int s)] 3)) t := fun t k => by
          refine pre5 t ?_
          show Steps p.tables e below (T5.setTop (mkF m 22 #[.val (.ref ar), .val (.int s), .val (.int z)] [])) _
          refine XS.iloadN X5.here hx rfl (hb hby d10_22) rfl ?_
          show Steps p.tables e below (T5.setTop (mkF m 23 #[.val (.ref ar), .val (.int s), .val (.int z)] [(.int s)])) _
          refine XS.iconst X5.here hx rfl (hb hby d10_23) ?_
          exact k
        by_cases hc24_20 : (1 : Int32) < s
        · have pre21 : ∀ t, Steps p.tables e below (T5.setTop (mkF m 42 #[.val (.ref ar), .val (.int s), .val (.int z)] [])) t → Steps p.tables e below (s₁.setTop (entryFrame m #[(.ref ar), (.int s)] 3)) t := fun t k => by
            refine pre19 t ?_
            show Steps p.tables e below (T5.setTop (mkF m 24 #[.val (.ref ar), .val (.int s), .val (.int z)] [(.int (1 : Int32)), (.int s)])) _
            refine XS.icmpYes X5.here hx rfl (pc0 := 24) (pc' := 42) rfl (hb hby d10_24) rfl (tlt hc24_20).2.2.1 (by decide) (by decide) ?_
            exact k
          exact ⟨T5, _, X5, e5, N5, pre21⟩
        · have pre22 : ∀ t, Steps p.tables e below (T5.setTop (mkF m 29 #[.val (.ref ar), .val (.int s), .val (.int z)] [(.int z), (.int (1 : Int32))])) t → Steps p.tables e below (s₁.setTop (entryFrame m #[(.ref ar), (.int s)] 3)) t := fun t k => by
            refine pre19 t ?_
            show Steps p.tables e below (T5.setTop (mkF m 24 #[.val (.ref ar), .val (.int s), .val (.int z)] [(.int (1 : Int32)), (.int s)])) _
            refine XS.icmpNo X5.here hx rfl (hb hby d10_24) rfl (flt hc24_20).2.2.1 ?_
            show Steps p.tables e below (T5.setTop (mkF m 27 #[.val (.ref ar), .val (.int s), .val (.int z)] [])) _
            refine XS.iconst X5.here hx rfl (hb hby d10_27) ?_
            show Steps p.tables e below (T5.setTop (mkF m 28 #[.val (.ref ar), .val (.int s), .val (.int z)] [(.int (1 : Int32))])) _
            refine XS.iloadN X5.here hx rfl (hb hby d10_28) rfl ?_
            exact k
          by_cases hc29_23 : (1 : Int32) < z
          · obtain ⟨cl24, Ar24, -, Sz24, Nz24, Hs24, Gs24⟩ := id V_ar
            have hin24 : ¬ ((1 : Int32) < 0 ∨ cl24.slots.size ≤ ((1 : Int32)).toNatClampNeg) := inb_of Sz24 ⟨by decide, hc29_23⟩
            have hat24 : cl24.slots[((1 : Int32)).toNatClampNeg]? = some (.int (own_b vs dv (1 : Int32))) := Hs24.at hin24 (own_bat Gs24 hin24)
            have pre25 : ∀ t, Steps p.tables e below (T5.setTop (mkF m 37 #[.val (.ref ar), .val (.int s), .val (.int z)] [(.int (10 : Int32)), (.int (own_b vs dv (1 : Int32)))])) t → Steps p.tables e below (s₁.setTop (entryFrame m #[(.ref ar), (.int s)] 3)) t := fun t k => by
              refine pre22 t ?_
              show Steps p.tables e below (T5.setTop (mkF m 29 #[.val (.ref ar), .val (.int s), .val (.int z)] [(.int z), (.int (1 : Int32))])) _
              refine XS.icmpNo X5.here hx rfl (hb hby d10_29) rfl (tlt hc29_23).2.1 ?_
              show Steps p.tables e below (T5.setTop (mkF m 32 #[.val (.ref ar), .val (.int s), .val (.int z)] [])) _
              refine XS.aloadN X5.here hx rfl (hb hby d10_32) rfl rfl ?_
              show Steps p.tables e below (T5.setTop (mkF m 33 #[.val (.ref ar), .val (.int s), .val (.int z)] [(.ref ar)])) _
              refine XS.iconst X5.here hx rfl (hb hby d10_33) ?_
              show Steps p.tables e below (T5.setTop (mkF m 34 #[.val (.ref ar), .val (.int s), .val (.int z)] [(.int (1 : Int32)), (.ref ar)])) _
              refine X5.baloadBytes hx (j := (1 : Int32)) (v := (.int (own_b vs dv (1 : Int32)))) (by rw [e5]; exact Ar24.1) (State.isArrayOf_alike hZ.alike Ar24.2.1) Ar24.2.2 hin24 hat24 (g := (mkF m 34 #[.val (.ref ar), .val (.int s), .val (.int z)] [(.int (1 : Int32)), (.ref ar)])) rfl rfl (hb hby d10_34) _ ?_
              show Steps p.tables e below (T5.setTop (mkF m 35 #[.val (.ref ar), .val (.int s), .val (.int z)] [(.int (own_b vs dv (1 : Int32)))])) _
              refine XS.bipush X5.here hx rfl (hb hby d10_35) ?_
              exact k
            by_cases hc37_26 : (own_b vs dv (1 : Int32)) = (10 : Int32)
            · exact absurd ⟨hc24_20, hc29_23, hc37_26⟩ hA1
            · have pre27 : ∀ t, Steps p.tables e below (T5.setTop (mkF m 42 #[.val (.ref ar), .val (.int s), .val (.int z)] [])) t → Steps p.tables e below (s₁.setTop (entryFrame m #[(.ref ar), (.int s)] 3)) t := fun t k => by
                refine pre25 t ?_
                show Steps p.tables e below (T5.setTop (mkF m 37 #[.val (.ref ar), .val (.int s), .val (.int z)] [(.int (10 : Int32)), (.int (own_b vs dv (1 : Int32)))])) _
                refine XS.icmpYes X5.here hx rfl (pc0 := 37) (pc' := 42) rfl (hb hby d10_37) rfl (feq hc37_26).2 (by decide) (by decide) ?_
                exact k
              exact ⟨T5, _, X5, e5, N5, pre27⟩
          · have pre28 : ∀ t, Steps p.tables e below (T5.setTop (mkF m 42 #[.val (.ref ar), .val (.int s), .val (.int z)] [])) t → Steps p.tables e below (s₁.setTop (entryFrame m #[(.ref ar), (.int s)] 3)) t := fun t k => by
              refine pre22 t ?_
              show Steps p.tables e below (T5.setTop (mkF m 29 #[.val (.ref ar), .val (.int s), .val (.int z)] [(.int z), (.int (1 : Int32))])) _
              refine XS.icmpYes X5.here hx rfl (pc0 := 29) (pc' := 42) rfl (hb hby d10_29) rfl (flt hc29_23).2.1 (by decide) (by decide) ?_
              exact k
            exact ⟨T5, _, X5, e5, N5, pre28⟩
      by_cases hA2 : (¬ ((2 : Int32) < s) ∧ (2 : Int32) < z ∧ (own_b vs dv (2 : Int32)) = (10 : Int32))
      · obtain ⟨cl29, Ar29, -, Sz29, Nz29, Hs29, Gs29⟩ := id V_ar
        have hin29 : ¬ ((2 : Int32) < 0 ∨ cl29.slots.size ≤ ((2 : Int32)).toNatClampNeg) := inb_of Sz29 ⟨by decide, hA2.2.1⟩
        have hat29 : cl29.slots[((2 : Int32)).toNatClampNeg]? = some (.int (own_b vs dv (2 : Int32))) := Hs29.at hin29 (own_bat Gs29 hin29)
        have pre30 : ∀ t, Steps p.tables e below (T18.setTop (mkF m 61 #[.val (.ref ar), .val (.int s), .val (.int z)] [(.int (3 : Int32))])) t → Steps p.tables e below (s₁.setTop (entryFrame m #[(.ref ar), (.int s)] 3)) t := fun t k => by
          refine pre18 t ?_
          show Steps p.tables e below (T18.setTop (mkF m 42 #[.val (.ref ar), .val (.int s), .val (.int z)] [])) _
          refine XS.iloadN X18.here hx rfl (hb hby d10_42) rfl ?_
          show Steps p.tables e below (T18.setTop (mkF m 43 #[.val (.ref ar), .val (.int s), .val (.int z)] [(.int s)])) _
          refine XS.iconst X18.here hx rfl (hb hby d10_43) ?_
          show Steps p.tables e below (T18.setTop (mkF m 44 #[.val (.ref ar), .val (.int s), .val (.int z)] [(.int (2 : Int32)), (.int s)])) _
          refine XS.icmpNo X18.here hx rfl (hb hby d10_44) rfl (flt (hA2.1 : ¬ ((2 : Int32) < s))).2.2.1 ?_
          show Steps p.tables e below (T18.setTop (mkF m 47 #[.val (.ref ar), .val (.int s), .val (.int z)] [])) _
          refine XS.iconst X18.here hx rfl (hb hby d10_47) ?_
          show Steps p.tables e below (T18.setTop (mkF m 48 #[.val (.ref ar), .val (.int s), .val (.int z)] [(.int (2 : Int32))])) _
          refine XS.iloadN X18.here hx rfl (hb hby d10_48) rfl ?_
          show Steps p.tables e below (T18.setTop (mkF m 49 #[.val (.ref ar), .val (.int s), .val (.int z)] [(.int z), (.int (2 : Int32))])) _
          refine XS.icmpNo X18.here hx rfl (hb hby d10_49) rfl (tlt (hA2.2.1 : (2 : Int32) < z)).2.1 ?_
          show Steps p.tables e below (T18.setTop (mkF m 52 #[.val (.ref ar), .val (.int s), .val (.int z)] [])) _
          refine XS.aloadN X18.here hx rfl (hb hby d10_52) rfl rfl ?_
          show Steps p.tables e below (T18.setTop (mkF m 53 #[.val (.ref ar), .val (.int s), .val (.int z)] [(.ref ar)])) _
          refine XS.iconst X18.here hx rfl (hb hby d10_53) ?_
          show Steps p.tables e below (T18.setTop (mkF m 54 #[.val (.ref ar), .val (.int s), .val (.int z)] [(.int (2 : Int32)), (.ref ar)])) _
          refine X18.baloadBytes hx (j := (2 : Int32)) (v := (.int (own_b vs dv (2 : Int32)))) (by rw [e18]; exact Ar29.1) (State.isArrayOf_alike hZ.alike Ar29.2.1) Ar29.2.2 hin29 hat29 (g := (mkF m 54 #[.val (.ref ar), .val (.int s), .val (.int z)] [(.int (2 : Int32)), (.ref ar)])) rfl rfl (hb hby d10_54) _ ?_
          show Steps p.tables e below (T18.setTop (mkF m 55 #[.val (.ref ar), .val (.int s), .val (.int z)] [(.int (own_b vs dv (2 : Int32)))])) _
          refine XS.bipush X18.here hx rfl (hb hby d10_55) ?_
          show Steps p.tables e below (T18.setTop (mkF m 57 #[.val (.ref ar), .val (.int s), .val (.int z)] [(.int (10 : Int32)), (.int (own_b vs dv (2 : Int32)))])) _
          refine XS.icmpNo X18.here hx rfl (hb hby d10_57) rfl (teq (hA2.2.2 : (own_b vs dv (2 : Int32)) = (10 : Int32))).2 ?_
          show Steps p.tables e below (T18.setTop (mkF m 60 #[.val (.ref ar), .val (.int s), .val (.int z)] [])) _
          refine XS.iconst X18.here hx rfl (hb hby d10_60) ?_
          exact k
        obtain ⟨fs, hrq, hrun, hended, hW, hsame⟩ := X18.leave (v := some (.int (3 : Int32))) (fun h => by rw [Bd.returns] at h; cases h)
        refine ⟨_, _, pre30 _ ?_, hrun, hended, _, _, rfl, ?_, ⟨_, rfl⟩, hW, hsame.mono (by decide) (by decide)⟩
        · show Steps p.tables e below (T18.setTop (mkF m 61 #[.val (.ref ar), .val (.int s), .val (.int z)] [(.int (3 : Int32))])) _
          exact retI X18 hx Bd.returns (hb hby d10_61) hrq
        · show Qafter Z ar s kk z vs dv h0 n0 _ T18.heap _
          rw [e18]
          exact ⟨by simp only [own_after, if_neg hA0, if_neg hA1, if_pos hA2], N18, rfl⟩
      · obtain ⟨T31, Lx31, X31, e31, N31, pre31⟩ : ∃ (T31 : State) (Lx31 : List Loc), Stand p l e ({ frames := 0, cells := 0, slots := 0, locals := 0 } : Room) s0 m #[(.ref ar), (.int s)] below meth c T31 Lx31 0 0 ∧ T31.heap = h0 ∧ Fr n0 Lx31 ∧ (∀ t, Steps p.tables e below (T31.setTop (mkF m 62 #[.val (.ref ar), .val (.int s), .val (.int z)] [])) t → Steps p.tables e below (s₁.setTop (entryFrame m #[(.ref ar), (.int s)] 3)) t) := by
          have pre32 : ∀ t, Steps p.tables e below (T18.setTop (mkF m 44 #[.val (.ref ar), .val (.int s), .val (.int z)] [(.int (2 : Int32)), (.int s)])) t → Steps p.tables e below (s₁.setTop (entryFrame m #[(.ref ar), (.int s)] 3)) t := fun t k => by
            refine pre18 t ?_
            show Steps p.tables e below (T18.setTop (mkF m 42 #[.val (.ref ar), .val (.int s), .val (.int z)] [])) _
            refine XS.iloadN X18.here hx rfl (hb hby d10_42) rfl ?_
            show Steps p.tables e below (T18.setTop (mkF m 43 #[.val (.ref ar), .val (.int s), .val (.int z)] [(.int s)])) _
            refine XS.iconst X18.here hx rfl (hb hby d10_43) ?_
            exact k
          by_cases hc44_33 : (2 : Int32) < s
          · have pre34 : ∀ t, Steps p.tables e below (T18.setTop (mkF m 62 #[.val (.ref ar), .val (.int s), .val (.int z)] [])) t → Steps p.tables e below (s₁.setTop (entryFrame m #[(.ref ar), (.int s)] 3)) t := fun t k => by
              refine pre32 t ?_
              show Steps p.tables e below (T18.setTop (mkF m 44 #[.val (.ref ar), .val (.int s), .val (.int z)] [(.int (2 : Int32)), (.int s)])) _
              refine XS.icmpYes X18.here hx rfl (pc0 := 44) (pc' := 62) rfl (hb hby d10_44) rfl (tlt hc44_33).2.2.1 (by decide) (by decide) ?_
              exact k
            exact ⟨T18, _, X18, e18, N18, pre34⟩
          · have pre35 : ∀ t, Steps p.tables e below (T18.setTop (mkF m 49 #[.val (.ref ar), .val (.int s), .val (.int z)] [(.int z), (.int (2 : Int32))])) t → Steps p.tables e below (s₁.setTop (entryFrame m #[(.ref ar), (.int s)] 3)) t := fun t k => by
              refine pre32 t ?_
              show Steps p.tables e below (T18.setTop (mkF m 44 #[.val (.ref ar), .val (.int s), .val (.int z)] [(.int (2 : Int32)), (.int s)])) _
              refine XS.icmpNo X18.here hx rfl (hb hby d10_44) rfl (flt hc44_33).2.2.1 ?_
              show Steps p.tables e below (T18.setTop (mkF m 47 #[.val (.ref ar), .val (.int s), .val (.int z)] [])) _
              refine XS.iconst X18.here hx rfl (hb hby d10_47) ?_
              show Steps p.tables e below (T18.setTop (mkF m 48 #[.val (.ref ar), .val (.int s), .val (.int z)] [(.int (2 : Int32))])) _
              refine XS.iloadN X18.here hx rfl (hb hby d10_48) rfl ?_
              exact k
            by_cases hc49_36 : (2 : Int32) < z
            · obtain ⟨cl37, Ar37, -, Sz37, Nz37, Hs37, Gs37⟩ := id V_ar
              have hin37 : ¬ ((2 : Int32) < 0 ∨ cl37.slots.size ≤ ((2 : Int32)).toNatClampNeg) := inb_of Sz37 ⟨by decide, hc49_36⟩
              have hat37 : cl37.slots[((2 : Int32)).toNatClampNeg]? = some (.int (own_b vs dv (2 : Int32))) := Hs37.at hin37 (own_bat Gs37 hin37)
              have pre38 : ∀ t, Steps p.tables e below (T18.setTop (mkF m 57 #[.val (.ref ar), .val (.int s), .val (.int z)] [(.int (10 : Int32)), (.int (own_b vs dv (2 : Int32)))])) t → Steps p.tables e below (s₁.setTop (entryFrame m #[(.ref ar), (.int s)] 3)) t := fun t k => by
                refine pre35 t ?_
                show Steps p.tables e below (T18.setTop (mkF m 49 #[.val (.ref ar), .val (.int s), .val (.int z)] [(.int z), (.int (2 : Int32))])) _
                refine XS.icmpNo X18.here hx rfl (hb hby d10_49) rfl (tlt hc49_36).2.1 ?_
                show Steps p.tables e below (T18.setTop (mkF m 52 #[.val (.ref ar), .val (.int s), .val (.int z)] [])) _
                refine XS.aloadN X18.here hx rfl (hb hby d10_52) rfl rfl ?_
                show Steps p.tables e below (T18.setTop (mkF m 53 #[.val (.ref ar), .val (.int s), .val (.int z)] [(.ref ar)])) _
                refine XS.iconst X18.here hx rfl (hb hby d10_53) ?_
                show Steps p.tables e below (T18.setTop (mkF m 54 #[.val (.ref ar), .val (.int s), .val (.int z)] [(.int (2 : Int32)), (.ref ar)])) _
                refine X18.baloadBytes hx (j := (2 : Int32)) (v := (.int (own_b vs dv (2 : Int32)))) (by rw [e18]; exact Ar37.1) (State.isArrayOf_alike hZ.alike Ar37.2.1) Ar37.2.2 hin37 hat37 (g := (mkF m 54 #[.val (.ref ar), .val (.int s), .val (.int z)] [(.int (2 : Int32)), (.ref ar)])) rfl rfl (hb hby d10_54) _ ?_
                show Steps p.tables e below (T18.setTop (mkF m 55 #[.val (.ref ar), .val (.int s), .val (.int z)] [(.int (own_b vs dv (2 : Int32)))])) _
                refine XS.bipush X18.here hx rfl (hb hby d10_55) ?_
                exact k
              by_cases hc57_39 : (own_b vs dv (2 : Int32)) = (10 : Int32)
              · exact absurd ⟨hc44_33, hc49_36, hc57_39⟩ hA2
              · have pre40 : ∀ t, Steps p.tables e below (T18.setTop (mkF m 62 #[.val (.ref ar), .val (.int s), .val (.int z)] [])) t → Steps p.tables e below (s₁.setTop (entryFrame m #[(.ref ar), (.int s)] 3)) t := fun t k => by
                  refine pre38 t ?_
                  show Steps p.tables e below (T18.setTop (mkF m 57 #[.val (.ref ar), .val (.int s), .val (.int z)] [(.int (10 : Int32)), (.int (own_b vs dv (2 : Int32)))])) _
                  refine XS.icmpYes X18.here hx rfl (pc0 := 57) (pc' := 62) rfl (hb hby d10_57) rfl (feq hc57_39).2 (by decide) (by decide) ?_
                  exact k
                exact ⟨T18, _, X18, e18, N18, pre40⟩
            · have pre41 : ∀ t, Steps p.tables e below (T18.setTop (mkF m 62 #[.val (.ref ar), .val (.int s), .val (.int z)] [])) t → Steps p.tables e below (s₁.setTop (entryFrame m #[(.ref ar), (.int s)] 3)) t := fun t k => by
                refine pre35 t ?_
                show Steps p.tables e below (T18.setTop (mkF m 49 #[.val (.ref ar), .val (.int s), .val (.int z)] [(.int z), (.int (2 : Int32))])) _
                refine XS.icmpYes X18.here hx rfl (pc0 := 49) (pc' := 62) rfl (hb hby d10_49) rfl (flt hc49_36).2.1 (by decide) (by decide) ?_
                exact k
              exact ⟨T18, _, X18, e18, N18, pre41⟩
        by_cases hA3 : (¬ ((3 : Int32) < s) ∧ (3 : Int32) < z ∧ (own_b vs dv (3 : Int32)) = (10 : Int32))
        · obtain ⟨cl42, Ar42, -, Sz42, Nz42, Hs42, Gs42⟩ := id V_ar
          have hin42 : ¬ ((3 : Int32) < 0 ∨ cl42.slots.size ≤ ((3 : Int32)).toNatClampNeg) := inb_of Sz42 ⟨by decide, hA3.2.1⟩
          have hat42 : cl42.slots[((3 : Int32)).toNatClampNeg]? = some (.int (own_b vs dv (3 : Int32))) := Hs42.at hin42 (own_bat Gs42 hin42)
          have pre43 : ∀ t, Steps p.tables e below (T31.setTop (mkF m 81 #[.val (.ref ar), .val (.int s), .val (.int z)] [(.int (4 : Int32))])) t → Steps p.tables e below (s₁.setTop (entryFrame m #[(.ref ar), (.int s)] 3)) t := fun t k => by
            refine pre31 t ?_
            show Steps p.tables e below (T31.setTop (mkF m 62 #[.val (.ref ar), .val (.int s), .val (.int z)] [])) _
            refine XS.iloadN X31.here hx rfl (hb hby d10_62) rfl ?_
            show Steps p.tables e below (T31.setTop (mkF m 63 #[.val (.ref ar), .val (.int s), .val (.int z)] [(.int s)])) _
            refine XS.iconst X31.here hx rfl (hb hby d10_63) ?_
            show Steps p.tables e below (T31.setTop (mkF m 64 #[.val (.ref ar), .val (.int s), .val (.int z)] [(.int (3 : Int32)), (.int s)])) _
            refine XS.icmpNo X31.here hx rfl (hb hby d10_64) rfl (flt (hA3.1 : ¬ ((3 : Int32) < s))).2.2.1 ?_
            show Steps p.tables e below (T31.setTop (mkF m 67 #[.val (.ref ar), .val (.int s), .val (.int z)] [])) _
            refine XS.iconst X31.here hx rfl (hb hby d10_67) ?_
            show Steps p.tables e below (T31.setTop (mkF m 68 #[.val (.ref ar), .val (.int s), .val (.int z)] [(.int (3 : Int32))])) _
            refine XS.iloadN X31.here hx rfl (hb hby d10_68) rfl ?_
            show Steps p.tables e below (T31.setTop (mkF m 69 #[.val (.ref ar), .val (.int s), .val (.int z)] [(.int z), (.int (3 : Int32))])) _
            refine XS.icmpNo X31.here hx rfl (hb hby d10_69) rfl (tlt (hA3.2.1 : (3 : Int32) < z)).2.1 ?_
            show Steps p.tables e below (T31.setTop (mkF m 72 #[.val (.ref ar), .val (.int s), .val (.int z)] [])) _
            refine XS.aloadN X31.here hx rfl (hb hby d10_72) rfl rfl ?_
            show Steps p.tables e below (T31.setTop (mkF m 73 #[.val (.ref ar), .val (.int s), .val (.int z)] [(.ref ar)])) _
            refine XS.iconst X31.here hx rfl (hb hby d10_73) ?_
            show Steps p.tables e below (T31.setTop (mkF m 74 #[.val (.ref ar), .val (.int s), .val (.int z)] [(.int (3 : Int32)), (.ref ar)])) _
            refine X31.baloadBytes hx (j := (3 : Int32)) (v := (.int (own_b vs dv (3 : Int32)))) (by rw [e31]; exact Ar42.1) (State.isArrayOf_alike hZ.alike Ar42.2.1) Ar42.2.2 hin42 hat42 (g := (mkF m 74 #[.val (.ref ar), .val (.int s), .val (.int z)] [(.int (3 : Int32)), (.ref ar)])) rfl rfl (hb hby d10_74) _ ?_
            show Steps p.tables e below (T31.setTop (mkF m 75 #[.val (.ref ar), .val (.int s), .val (.int z)] [(.int (own_b vs dv (3 : Int32)))])) _
            refine XS.bipush X31.here hx rfl (hb hby d10_75) ?_
            show Steps p.tables e below (T31.setTop (mkF m 77 #[.val (.ref ar), .val (.int s), .val (.int z)] [(.int (10 : Int32)), (.int (own_b vs dv (3 : Int32)))])) _
            refine XS.icmpNo X31.here hx rfl (hb hby d10_77) rfl (teq (hA3.2.2 : (own_b vs dv (3 : Int32)) = (10 : Int32))).2 ?_
            show Steps p.tables e below (T31.setTop (mkF m 80 #[.val (.ref ar), .val (.int s), .val (.int z)] [])) _
            refine XS.iconst X31.here hx rfl (hb hby d10_80) ?_
            exact k
          obtain ⟨fs, hrq, hrun, hended, hW, hsame⟩ := X31.leave (v := some (.int (4 : Int32))) (fun h => by rw [Bd.returns] at h; cases h)
          refine ⟨_, _, pre43 _ ?_, hrun, hended, _, _, rfl, ?_, ⟨_, rfl⟩, hW, hsame.mono (by decide) (by decide)⟩
          · show Steps p.tables e below (T31.setTop (mkF m 81 #[.val (.ref ar), .val (.int s), .val (.int z)] [(.int (4 : Int32))])) _
            exact retI X31 hx Bd.returns (hb hby d10_81) hrq
          · show Qafter Z ar s kk z vs dv h0 n0 _ T31.heap _
            rw [e31]
            exact ⟨by simp only [own_after, if_neg hA0, if_neg hA1, if_neg hA2, if_pos hA3], N31, rfl⟩
        · obtain ⟨T44, Lx44, X44, e44, N44, pre44⟩ : ∃ (T44 : State) (Lx44 : List Loc), Stand p l e ({ frames := 0, cells := 0, slots := 0, locals := 0 } : Room) s0 m #[(.ref ar), (.int s)] below meth c T44 Lx44 0 0 ∧ T44.heap = h0 ∧ Fr n0 Lx44 ∧ (∀ t, Steps p.tables e below (T44.setTop (mkF m 82 #[.val (.ref ar), .val (.int s), .val (.int z)] [])) t → Steps p.tables e below (s₁.setTop (entryFrame m #[(.ref ar), (.int s)] 3)) t) := by
            have pre45 : ∀ t, Steps p.tables e below (T31.setTop (mkF m 64 #[.val (.ref ar), .val (.int s), .val (.int z)] [(.int (3 : Int32)), (.int s)])) t → Steps p.tables e below (s₁.setTop (entryFrame m #[(.ref ar), (.int s)] 3)) t := fun t k => by
              refine pre31 t ?_
              show Steps p.tables e below (T31.setTop (mkF m 62 #[.val (.ref ar), .val (.int s), .val (.int z)] [])) _
              refine XS.iloadN X31.here hx rfl (hb hby d10_62) rfl ?_
              show Steps p.tables e below (T31.setTop (mkF m 63 #[.val (.ref ar), .val (.int s), .val (.int z)] [(.int s)])) _
              refine XS.iconst X31.here hx rfl (hb hby d10_63) ?_
              exact k
            by_cases hc64_46 : (3 : Int32) < s
            · have pre47 : ∀ t, Steps p.tables e below (T31.setTop (mkF m 82 #[.val (.ref ar), .val (.int s), .val (.int z)] [])) t → Steps p.tables e below (s₁.setTop (entryFrame m #[(.ref ar), (.int s)] 3)) t := fun t k => by
                refine pre45 t ?_
                show Steps p.tables e below (T31.setTop (mkF m 64 #[.val (.ref ar), .val (.int s), .val (.int z)] [(.int (3 : Int32)), (.int s)])) _
                refine XS.icmpYes X31.here hx rfl (pc0 := 64) (pc' := 82) rfl (hb hby d10_64) rfl (tlt hc64_46).2.2.1 (by decide) (by decide) ?_
                exact k
              exact ⟨T31, _, X31, e31, N31, pre47⟩
            · have pre48 : ∀ t, Steps p.tables e below (T31.setTop (mkF m 69 #[.val (.ref ar), .val (.int s), .val (.int z)] [(.int z), (.int (3 : Int32))])) t → Steps p.tables e below (s₁.setTop (entryFrame m #[(.ref ar), (.int s)] 3)) t := fun t k => by
                refine pre45 t ?_
                show Steps p.tables e below (T31.setTop (mkF m 64 #[.val (.ref ar), .val (.int s), .val (.int z)] [(.int (3 : Int32)), (.int s)])) _
                refine XS.icmpNo X31.here hx rfl (hb hby d10_64) rfl (flt hc64_46).2.2.1 ?_
                show Steps p.tables e below (T31.setTop (mkF m 67 #[.val (.ref ar), .val (.int s), .val (.int z)] [])) _
                refine XS.iconst X31.here hx rfl (hb hby d10_67) ?_
                show Steps p.tables e below (T31.setTop (mkF m 68 #[.val (.ref ar), .val (.int s), .val (.int z)] [(.int (3 : Int32))])) _
                refine XS.iloadN X31.here hx rfl (hb hby d10_68) rfl ?_
                exact k
              by_cases hc69_49 : (3 : Int32) < z
              · obtain ⟨cl50, Ar50, -, Sz50, Nz50, Hs50, Gs50⟩ := id V_ar
                have hin50 : ¬ ((3 : Int32) < 0 ∨ cl50.slots.size ≤ ((3 : Int32)).toNatClampNeg) := inb_of Sz50 ⟨by decide, hc69_49⟩
                have hat50 : cl50.slots[((3 : Int32)).toNatClampNeg]? = some (.int (own_b vs dv (3 : Int32))) := Hs50.at hin50 (own_bat Gs50 hin50)
                have pre51 : ∀ t, Steps p.tables e below (T31.setTop (mkF m 77 #[.val (.ref ar), .val (.int s), .val (.int z)] [(.int (10 : Int32)), (.int (own_b vs dv (3 : Int32)))])) t → Steps p.tables e below (s₁.setTop (entryFrame m #[(.ref ar), (.int s)] 3)) t := fun t k => by
                  refine pre48 t ?_
                  show Steps p.tables e below (T31.setTop (mkF m 69 #[.val (.ref ar), .val (.int s), .val (.int z)] [(.int z), (.int (3 : Int32))])) _
                  refine XS.icmpNo X31.here hx rfl (hb hby d10_69) rfl (tlt hc69_49).2.1 ?_
                  show Steps p.tables e below (T31.setTop (mkF m 72 #[.val (.ref ar), .val (.int s), .val (.int z)] [])) _
                  refine XS.aloadN X31.here hx rfl (hb hby d10_72) rfl rfl ?_
                  show Steps p.tables e below (T31.setTop (mkF m 73 #[.val (.ref ar), .val (.int s), .val (.int z)] [(.ref ar)])) _
                  refine XS.iconst X31.here hx rfl (hb hby d10_73) ?_
                  show Steps p.tables e below (T31.setTop (mkF m 74 #[.val (.ref ar), .val (.int s), .val (.int z)] [(.int (3 : Int32)), (.ref ar)])) _
                  refine X31.baloadBytes hx (j := (3 : Int32)) (v := (.int (own_b vs dv (3 : Int32)))) (by rw [e31]; exact Ar50.1) (State.isArrayOf_alike hZ.alike Ar50.2.1) Ar50.2.2 hin50 hat50 (g := (mkF m 74 #[.val (.ref ar), .val (.int s), .val (.int z)] [(.int (3 : Int32)), (.ref ar)])) rfl rfl (hb hby d10_74) _ ?_
                  show Steps p.tables e below (T31.setTop (mkF m 75 #[.val (.ref ar), .val (.int s), .val (.int z)] [(.int (own_b vs dv (3 : Int32)))])) _
                  refine XS.bipush X31.here hx rfl (hb hby d10_75) ?_
                  exact k
                by_cases hc77_52 : (own_b vs dv (3 : Int32)) = (10 : Int32)
                · exact absurd ⟨hc64_46, hc69_49, hc77_52⟩ hA3
                · have pre53 : ∀ t, Steps p.tables e below (T31.setTop (mkF m 82 #[.val (.ref ar), .val (.int s), .val (.int z)] [])) t → Steps p.tables e below (s₁.setTop (entryFrame m #[(.ref ar), (.int s)] 3)) t := fun t k => by
                    refine pre51 t ?_
                    show Steps p.tables e below (T31.setTop (mkF m 77 #[.val (.ref ar), .val (.int s), .val (.int z)] [(.int (10 : Int32)), (.int (own_b vs dv (3 : Int32)))])) _
                    refine XS.icmpYes X31.here hx rfl (pc0 := 77) (pc' := 82) rfl (hb hby d10_77) rfl (feq hc77_52).2 (by decide) (by decide) ?_
                    exact k
                  exact ⟨T31, _, X31, e31, N31, pre53⟩
              · have pre54 : ∀ t, Steps p.tables e below (T31.setTop (mkF m 82 #[.val (.ref ar), .val (.int s), .val (.int z)] [])) t → Steps p.tables e below (s₁.setTop (entryFrame m #[(.ref ar), (.int s)] 3)) t := fun t k => by
                  refine pre48 t ?_
                  show Steps p.tables e below (T31.setTop (mkF m 69 #[.val (.ref ar), .val (.int s), .val (.int z)] [(.int z), (.int (3 : Int32))])) _
                  refine XS.icmpYes X31.here hx rfl (pc0 := 69) (pc' := 82) rfl (hb hby d10_69) rfl (flt hc69_49).2.1 (by decide) (by decide) ?_
                  exact k
                exact ⟨T31, _, X31, e31, N31, pre54⟩
          have pre55 : ∀ t, Steps p.tables e below (T44.setTop (mkF m 83 #[.val (.ref ar), .val (.int s), .val (.int z)] [(.int z)])) t → Steps p.tables e below (s₁.setTop (entryFrame m #[(.ref ar), (.int s)] 3)) t := fun t k => by
            refine pre44 t ?_
            show Steps p.tables e below (T44.setTop (mkF m 82 #[.val (.ref ar), .val (.int s), .val (.int z)] [])) _
            refine XS.iloadN X44.here hx rfl (hb hby d10_82) rfl ?_
            exact k
          obtain ⟨fs, hrq, hrun, hended, hW, hsame⟩ := X44.leave (v := some (.int z)) (fun h => by rw [Bd.returns] at h; cases h)
          refine ⟨_, _, pre55 _ ?_, hrun, hended, _, _, rfl, ?_, ⟨_, rfl⟩, hW, hsame.mono (by decide) (by decide)⟩
          · show Steps p.tables e below (T44.setTop (mkF m 83 #[.val (.ref ar), .val (.int s), .val (.int z)] [(.int z)])) _
            exact retI X44 hx Bd.returns (hb hby d10_83) hrq
          · show Qafter Z ar s kk z vs dv h0 n0 _ T44.heap _
            rw [e44]
            exact ⟨by simp only [own_after, if_neg hA0, if_neg hA1, if_neg hA2, if_neg hA3], N44, rfl⟩
theorem d2_0 : decode prog_163_method_3_code 0 = .ok (.aload_n 0, 1) := by decide +kernel
theorem d2_1 : decode prog_163_method_3_code 1 = .ok (.invokespecial 11, 3) := by decide +kernel
theorem d2_4 : decode prog_163_method_3_code 4 = .ok (.aload_n 0, 1) := by decide +kernel
theorem d2_5 : decode prog_163_method_3_code 5 = .ok (.getstatic 16, 3) := by decide +kernel
theorem d2_8 : decode prog_163_method_3_code 8 = .ok (.putfield 20, 3) := by decide +kernel
theorem d2_11 : decode prog_163_method_3_code 11 = .ok (.aload_n 0, 1) := by decide +kernel
theorem d2_12 : decode prog_163_method_3_code 12 = .ok (.aconst_null, 1) := by decide +kernel
theorem d2_13 : decode prog_163_method_3_code 13 = .ok (.putfield 23, 3) := by decide +kernel
theorem d2_16 : decode prog_163_method_3_code 16 = .ok (.aload_n 0, 1) := by decide +kernel
theorem d2_17 : decode prog_163_method_3_code 17 = .ok (.aload_n 1, 1) := by decide +kernel
theorem d2_18 : decode prog_163_method_3_code 18 = .ok (.arraylength, 1) := by decide +kernel
theorem d2_19 : decode prog_163_method_3_code 19 = .ok (.i2l, 1) := by decide +kernel
theorem d2_20 : decode prog_163_method_3_code 20 = .ok (.putfield 27, 3) := by decide +kernel
theorem d2_23 : decode prog_163_method_3_code 23 = .ok (.aload_n 0, 1) := by decide +kernel
theorem d2_24 : decode prog_163_method_3_code 24 = .ok (.aconst_null, 1) := by decide +kernel
theorem d2_25 : decode prog_163_method_3_code 25 = .ok (.putfield 31, 3) := by decide +kernel
theorem d2_28 : decode prog_163_method_3_code 28 = .ok (.aload_n 0, 1) := by decide +kernel
theorem d2_29 : decode prog_163_method_3_code 29 = .ok (.aload_n 1, 1) := by decide +kernel
theorem d2_30 : decode prog_163_method_3_code 30 = .ok (.putfield 46, 3) := by decide +kernel
theorem d2_33 : decode prog_163_method_3_code 33 = .ok (.aload_n 0, 1) := by decide +kernel
theorem d2_34 : decode prog_163_method_3_code 34 = .ok (.aload_n 1, 1) := by decide +kernel
theorem d2_35 : decode prog_163_method_3_code 35 = .ok (.arraylength, 1) := by decide +kernel
theorem d2_36 : decode prog_163_method_3_code 36 = .ok (.putfield 49, 3) := by decide +kernel
theorem d2_39 : decode prog_163_method_3_code 39 = .ok (.aload_n 0, 1) := by decide +kernel
theorem d2_40 : decode prog_163_method_3_code 40 = .ok (.aload_n 1, 1) := by decide +kernel
theorem d2_41 : decode prog_163_method_3_code 41 = .ok (.arraylength, 1) := by decide +kernel
theorem d2_42 : decode prog_163_method_3_code 42 = .ok (.i2l, 1) := by decide +kernel
theorem d2_43 : decode prog_163_method_3_code 43 = .ok (.putfield 53, 3) := by decide +kernel
theorem d2_46 : decode prog_163_method_3_code 46 = .ok (.return_, 1) := by decide +kernel
theorem ef_rminit (m : MethodId) (x0 : Addr) (x1 : Addr) : entryFrame m #[(.ref x0), (.ref x1)] 2 = mkF m 0 #[.val (.ref x0), .val (.ref x1)] [] := by first | (simp [entryFrame, mkF, argsToLocals, Value.category]; done) | rfl
def Qinit (Z : State) (ob : Addr) (ar : Addr) (kk : ClassId) (z : Int32) (vs : List Value) (dv : Value) (ln : Addr) (h0 : Heap) (n0 : Nat) (v : Option Value) (h : Heap) (L : List Loc) : Prop := v = none ∧ Fr n0 L ∧ Keep h0 h [ob] ∧ own_rd Z h ob ar z (0 : Int32) ln
set_option maxRecDepth 65536 in
set_option maxHeartbeats 40000000 in
theorem rminit (l : Launch) (Z : State) (a0 : Array Value) (hw : ∀ d ∈ tables_1, d.before a0 Z = true) (ws : List Jvm.Cond) (ob : Addr) (ar : Addr) (kk : ClassId) (z : Int32) (vs : List Value) (dv : Value) (ln : Addr) (h0 : Heap) (n0 : Nat) (Z0 : n0 ≤ h0.size) (E_ob : Exa Z h0 ob "quorumkeep/store/Messages$Reader") (F_line : Fld Z h0 ob "quorumkeep/store/Messages$Reader" "line" "[B" .null) (F_in : Fld Z h0 ob "quorumkeep/store/Messages$Reader" "in" "Ljava/io/InputStream;" .null) (F_length : Fld Z h0 ob "quorumkeep/store/Messages$Reader" "length" "J" (.long (0 : Int64))) (F_budget : Fld Z h0 ob "quorumkeep/store/Messages$Reader" "budget" "Lquorumkeep/base/HeapBudget;" .null) (F_buffer : Fld Z h0 ob "quorumkeep/store/Messages$Reader" "buffer" "[B" .null) (F_end : Fld Z h0 ob "quorumkeep/store/Messages$Reader" "end" "I" (.int (0 : Int32))) (F_read : Fld Z h0 ob "quorumkeep/store/Messages$Reader" "read" "J" (.long (0 : Int64))) (F_start : Fld Z h0 ob "quorumkeep/store/Messages$Reader" "start" "I" (.int (0 : Int32))) (F_held : Fld Z h0 ob "quorumkeep/store/Messages$Reader" "held" "I" (.int (0 : Int32))) (F_size : Fld Z h0 ob "quorumkeep/store/Messages$Reader" "size" "I" (.int (0 : Int32))) (F_keepable : Fld Z h0 ob "quorumkeep/store/Messages$Reader" "keepable" "I" (.int (0 : Int32))) (F_atEnd : Fld Z h0 ob "quorumkeep/store/Messages$Reader" "atEnd" "Z" (.int (0 : Int32))) (V_ar : Arv Z h0 ar kk .byte z vs dv) (S_none : Sta Z h0 "quorumkeep/store/Messages$Reader" "NONE" "[B" (.ref ln)) (g_ob : n0 ≤ ob) :
    MetFree l (⟨"quorumkeep/store/Messages$Reader", "<init>", "([B)V"⟩ : MethodName) (head1 (Jvm.Cond.code (⟨"quorumkeep/store/Messages$Reader", "<init>", "([B)V"⟩ : MethodName) prog_163_method_3_code 2 none :: ws) ({ frames := 1, cells := 0, slots := 0, locals := 12 } : Room)) (fun a U => a = #[(.ref ob), (.ref ar)] ∧ Z.Warmed39 U.vm ∧ U.heap = h0) (fun _ _ _ _ _ => True) (fun _ U o U' => ∃ v L, o = .returned v ∧ Qinit Z ob ar kk z vs dv ln h0 n0 v U'.heap L ∧ FrameEnd U o U' L ({ frames := 1, cells := 0, slots := 0, locals := 12 } : Room).cells ({ frames := 1, cells := 0, slots := 0, locals := 12 } : Room).slots) := by
  refine MetFree.of_bodySF (plainFor_of_name pn_1) hisR ?_
  intro p e s0 m args below meth c s₁ Bd hml0 hP hK
  obtain ⟨rfl, hZ, hh⟩ := hP
  have hx := Bd.exec
  have hby := Bd.bytes
  have hml : c.maxLocals = 2 := hml0
  have hown : s0.vm.findClass "quorumkeep/store/Messages$Reader" = some m.cls := findClass_of_methodNamed Bd.named
  have hnm := (name_of_methodNamed Bd.named Bd.method).1
  have X0 : Stand p l e ({ frames := 1, cells := 0, slots := 0, locals := 12 } : Room) s0 m #[(.ref ob), (.ref ar)] below meth c s₁ [] 0 0 := Stand.of_body Bd
  have e0 : s₁.heap = h0 := by rw [← hh, Bd.state]; rfl
  have N0 := Fr.nil n0
  have pre0 : ∀ t, Steps p.tables e below (s₁.setTop (mkF m 0 #[.val (.ref ob), .val (.ref ar)] [])) t → Steps p.tables e below (s₁.setTop (entryFrame m #[(.ref ob), (.ref ar)] 2)) t := fun t k => castTop (ef_rminit m ob ar) k
  have ne_oar : ob ≠ ar := own_ne_arv E_ob (hw _ (List.mem_of_getElem? (i := 7) rfl)) V_ar
  obtain ⟨T1, X1, e1, st1⟩ := initO X0 hx hZ hown (hw _ (List.mem_of_getElem? (i := 12) rfl)) (hw _ (List.mem_of_getElem? (i := 13) rfl)) (hw _ (List.mem_of_getElem? (i := 14) rfl)) e0 (g := (mkF m 1 #[.val (.ref ob), .val (.ref ar)] [(.ref ob)])) rfl (by rw [hml]; rfl) rfl (hb hby d2_1) (by decide) (W := 0) (by show 2 * 0 + _ ≤ _; exact Nat.le_of_eq rfl) (by decide)
  obtain ⟨T2, X2, e2, st2⟩ := getS2 X1 hx hZ hown (host := "") (Or.inl (hw _ (List.mem_of_getElem? (i := 15) rfl))) Via.refl e1 S_none (g := (mkF m 5 #[.val (.ref ob), .val (.ref ar)] [(.ref ob)])) rfl (hb hby d2_5)
  obtain ⟨T3, h3, X3, e3, W3, st3⟩ := putF X2 hx hZ hown (host := "") (Or.inl (hw _ (List.mem_of_getElem? (i := 17) rfl))) Via.refl e2 F_line E_ob (Or.inl (hw _ (List.mem_of_getElem? (i := 18) rfl))) (hw _ (List.mem_of_getElem? (i := 7) rfl)) (ty := (.array .byte)) (by decide) rfl rfl (g := (mkF m 8 #[.val (.ref ob), .val (.ref ar)] [(.ref ln), (.ref ob)])) rfl rfl (hb hby d2_8)
  have Fw3 : Fld Z h3 ob "quorumkeep/store/Messages$Reader" "line" "[B" (.ref ln) := F_line.same W3
  have Z4 : n0 ≤ h3.size := Nat.le_trans Z0 (Keep.of_wr W3).1
  have K3 : Keep h0 h3 [ob] := (Keep.refl h0 [ob]).wr W3 (Or.inl (List.mem_of_getElem? (i := 0) rfl))
  have N3 := Fr.snoc X3 N0 g_ob
  have c5 : Exa Z h3 ob "quorumkeep/store/Messages$Reader" := (E_ob.wr W3)
  have c6 : Fld Z h3 ob "quorumkeep/store/Messages$Reader" "in" "Ljava/io/InputStream;" .null := (F_in.other W3 (Or.inr (slot_ne (a0 := a0) (Or.inr (hw _ (List.mem_of_getElem? (i := 20) rfl))) (Or.inl (hw _ (List.mem_of_getElem? (i := 18) rfl))) (by decide) (t := (.object "java/io/InputStream")) (t' := (.array .byte)) (by decide) (by decide))))
  obtain ⟨T7, h7, X7, e7, W7, st7⟩ := putF X3 hx hZ hown (host := "") (Or.inl (hw _ (List.mem_of_getElem? (i := 19) rfl))) Via.refl e3 c6 c5 (Or.inr ⟨(hw _ (List.mem_of_getElem? (i := 20) rfl)), rfl, hnm⟩) (hw _ (List.mem_of_getElem? (i := 7) rfl)) (ty := (.object "java/io/InputStream")) (by decide) rfl rfl (g := (mkF m 13 #[.val (.ref ob), .val (.ref ar)] [.null, (.ref ob)])) rfl rfl (hb hby d2_13)
  have Fw7 : Fld Z h7 ob "quorumkeep/store/Messages$Reader" "in" "Ljava/io/InputStream;" .null := c6.same W7
  have Z8 : n0 ≤ h7.size := Nat.le_trans Z4 (Keep.of_wr W7).1
  have K7 : Keep h0 h7 [ob] := K3.wr W7 (Or.inl (List.mem_of_getElem? (i := 0) rfl))
  have N7 := Fr.snoc X7 N3 g_ob
  have c9 : Arv Z h7 ar kk .byte z vs dv := ((V_ar.other W3 (Ne.symm ne_oar)).other W7 (Ne.symm ne_oar))
  obtain ⟨cl10, Ar10, -, Sz10, Nz10, -, -⟩ := id c9
  have c11 : Exa Z h7 ob "quorumkeep/store/Messages$Reader" := (c5.wr W7)
  have c12 : Fld Z h7 ob "quorumkeep/store/Messages$Reader" "length" "J" (.long (0 : Int64)) := ((F_length.other W3 (Or.inr (slot_ne (a0 := a0) (Or.inr (hw _ (List.mem_of_getElem? (i := 22) rfl))) (Or.inl (hw _ (List.mem_of_getElem? (i := 18) rfl))) (by decide) (t := .long) (t' := (.array .byte)) (by decide) (by decide)))).other W7 (Or.inr (slot_ne (a0 := a0) (Or.inr (hw _ (List.mem_of_getElem? (i := 22) rfl))) (Or.inr (hw _ (List.mem_of_getElem? (i := 20) rfl))) (by decide) (t := .long) (t' := (.object "java/io/InputStream")) (by decide) (by decide))))
  obtain ⟨T13, h13, X13, e13, W13, st13⟩ := putF X7 hx hZ hown (host := "") (Or.inl (hw _ (List.mem_of_getElem? (i := 21) rfl))) Via.refl e7 c12 c11 (Or.inr ⟨(hw _ (List.mem_of_getElem? (i := 22) rfl)), rfl, hnm⟩) (hw _ (List.mem_of_getElem? (i := 7) rfl)) (ty := .long) (by decide) rfl rfl (g := (mkF m 20 #[.val (.ref ob), .val (.ref ar)] [(.long (z.toInt64)), (.ref ob)])) rfl rfl (hb hby d2_20)
  have Fw13 : Fld Z h13 ob "quorumkeep/store/Messages$Reader" "length" "J" (.long (z.toInt64)) := c12.same W13
  have Z14 : n0 ≤ h13.size := Nat.le_trans Z8 (Keep.of_wr W13).1
  have K13 : Keep h0 h13 [ob] := K7.wr W13 (Or.inl (List.mem_of_getElem? (i := 0) rfl))
  have N13 := Fr.snoc X13 N7 g_ob
  have c15 : Exa Z h13 ob "quorumkeep/store/Messages$Reader" := (c11.wr W13)
  have c16 : Fld Z h13 ob "quorumkeep/store/Messages$Reader" "budget" "Lquorumkeep/base/HeapBudget;" .null := (((F_budget.other W3 (Or.inr (slot_ne (a0 := a0) (Or.inr (hw _ (List.mem_of_getElem? (i := 24) rfl))) (Or.inl (hw _ (List.mem_of_getElem? (i := 18) rfl))) (by decide) (t := (.object "quorumkeep/base/HeapBudget")) (t' := (.array .byte)) (by decide) (by decide)))).other W7 (Or.inr (slot_ne (a0 := a0) (Or.inr (hw _ (List.mem_of_getElem? (i := 24) rfl))) (Or.inr (hw _ (List.mem_of_getElem? (i := 20) rfl))) (by decide) (t := (.object "quorumkeep/base/HeapBudget")) (t' := (.object "java/io/InputStream")) (by decide) (by decide)))).other W13 (Or.inr (slot_ne (a0 := a0) (Or.inr (hw _ (List.mem_of_getElem? (i := 24) rfl))) (Or.inr (hw _ (List.mem_of_getElem? (i := 22) rfl))) (by decide) (t := (.object "quorumkeep/base/HeapBudget")) (t' := .long) (by decide) (by decide))))
  obtain ⟨T17, h17, X17, e17, W17, st17⟩ := putF X13 hx hZ hown (host := "") (Or.inl (hw _ (List.mem_of_getElem? (i := 23) rfl))) Via.refl e13 c16 c15 (Or.inr ⟨(hw _ (List.mem_of_getElem? (i := 24) rfl)), rfl, hnm⟩) (hw _ (List.mem_of_getElem? (i := 7) rfl)) (ty := (.object "quorumkeep/base/HeapBudget")) (by decide) rfl rfl (g := (mkF m 25 #[.val (.ref ob), .val (.ref ar)] [.null, (.ref ob)])) rfl rfl (hb hby d2_25)
  have Fw17 : Fld Z h17 ob "quorumkeep/store/Messages$Reader" "budget" "Lquorumkeep/base/HeapBudget;" .null := c16.same W17
  have Z18 : n0 ≤ h17.size := Nat.le_trans Z14 (Keep.of_wr W17).1
  have K17 : Keep h0 h17 [ob] := K13.wr W17 (Or.inl (List.mem_of_getElem? (i := 0) rfl))
  have N17 := Fr.snoc X17 N13 g_ob
  have c19 : Exa Z h17 ob "quorumkeep/store/Messages$Reader" := (c15.wr W17)
  have c20 : Fld Z h17 ob "quorumkeep/store/Messages$Reader" "buffer" "[B" .null := ((((F_buffer.other W3 (Or.inr (slot_ne (a0 := a0) (Or.inr (hw _ (List.mem_of_getElem? (i := 26) rfl))) (Or.inl (hw _ (List.mem_of_getElem? (i := 18) rfl))) (by decide) (t := (.array .byte)) (t' := (.array .byte)) (by decide) (by decide)))).other W7 (Or.inr (slot_ne (a0 := a0) (Or.inr (hw _ (List.mem_of_getElem? (i := 26) rfl))) (Or.inr (hw _ (List.mem_of_getElem? (i := 20) rfl))) (by decide) (t := (.array .byte)) (t' := (.object "java/io/InputStream")) (by decide) (by decide)))).other W13 (Or.inr (slot_ne (a0 := a0) (Or.inr (hw _ (List.mem_of_getElem? (i := 26) rfl))) (Or.inr (hw _ (List.mem_of_getElem? (i := 22) rfl))) (by decide) (t := (.array .byte)) (t' := .long) (by decide) (by decide)))).other W17 (Or.inr (slot_ne (a0 := a0) (Or.inr (hw _ (List.mem_of_getElem? (i := 26) rfl))) (Or.inr (hw _ (List.mem_of_getElem? (i := 24) rfl))) (by decide) (t := (.array .byte)) (t' := (.object "quorumkeep/base/HeapBudget")) (by decide) (by decide))))
  obtain ⟨T21, h21, X21, e21, W21, st21⟩ := putF X17 hx hZ hown (host := "") (Or.inl (hw _ (List.mem_of_getElem? (i := 25) rfl))) Via.refl e17 c20 c19 (Or.inr ⟨(hw _ (List.mem_of_getElem? (i := 26) rfl)), rfl, hnm⟩) (hw _ (List.mem_of_getElem? (i := 7) rfl)) (ty := (.array .byte)) (by decide) rfl rfl (g := (mkF m 30 #[.val (.ref ob), .val (.ref ar)] [(.ref ar), (.ref ob)])) rfl rfl (hb hby d2_30)
  have Fw21 : Fld Z h21 ob "quorumkeep/store/Messages$Reader" "buffer" "[B" (.ref ar) := c20.same W21
  have Z22 : n0 ≤ h21.size := Nat.le_trans Z18 (Keep.of_wr W21).1
  have K21 : Keep h0 h21 [ob] := K17.wr W21 (Or.inl (List.mem_of_getElem? (i := 0) rfl))
  have N21 := Fr.snoc X21 N17 g_ob
  have c23 : Arv Z h21 ar kk .byte z vs dv := (((c9.other W13 (Ne.symm ne_oar)).other W17 (Ne.symm ne_oar)).other W21 (Ne.symm ne_oar))
  obtain ⟨cl24, Ar24, -, Sz24, Nz24, -, -⟩ := id c23
  have c25 : Exa Z h21 ob "quorumkeep/store/Messages$Reader" := (c19.wr W21)
  have c26 : Fld Z h21 ob "quorumkeep/store/Messages$Reader" "end" "I" (.int (0 : Int32)) := (((((F_end.other W3 (Or.inr (slot_ne (a0 := a0) (Or.inl (hw _ (List.mem_of_getElem? (i := 28) rfl))) (Or.inl (hw _ (List.mem_of_getElem? (i := 18) rfl))) (by decide) (t := .int) (t' := (.array .byte)) (by decide) (by decide)))).other W7 (Or.inr (slot_ne (a0 := a0) (Or.inl (hw _ (List.mem_of_getElem? (i := 28) rfl))) (Or.inr (hw _ (List.mem_of_getElem? (i := 20) rfl))) (by decide) (t := .int) (t' := (.object "java/io/InputStream")) (by decide) (by decide)))).other W13 (Or.inr (slot_ne (a0 := a0) (Or.inl (hw _ (List.mem_of_getElem? (i := 28) rfl))) (Or.inr (hw _ (List.mem_of_getElem? (i := 22) rfl))) (by decide) (t := .int) (t' := .long) (by decide) (by decide)))).other W17 (Or.inr (slot_ne (a0 := a0) (Or.inl (hw _ (List.mem_of_getElem? (i := 28) rfl))) (Or.inr (hw _ (List.mem_of_getElem? (i := 24) rfl))) (by decide) (t := .int) (t' := (.object "quorumkeep/base/HeapBudget")) (by decide) (by decide)))).other W21 (Or.inr (slot_ne (a0 := a0) (Or.inl (hw _ (List.mem_of_getElem? (i := 28) rfl))) (Or.inr (hw _ (List.mem_of_getElem? (i := 26) rfl))) (by decide) (t := .int) (t' := (.array .byte)) (by decide) (by decide))))
  obtain ⟨T27, h27, X27, e27, W27, st27⟩ := putF X21 hx hZ hown (host := "") (Or.inl (hw _ (List.mem_of_getElem? (i := 27) rfl))) Via.refl e21 c26 c25 (Or.inl (hw _ (List.mem_of_getElem? (i := 28) rfl))) (hw _ (List.mem_of_getElem? (i := 7) rfl)) (ty := .int) (by decide) rfl rfl (g := (mkF m 36 #[.val (.ref ob), .val (.ref ar)] [(.int z), (.ref ob)])) rfl rfl (hb hby d2_36)
  have Fw27 : Fld Z h27 ob "quorumkeep/store/Messages$Reader" "end" "I" (.int z) := c26.same W27
  have Z28 : n0 ≤ h27.size := Nat.le_trans Z22 (Keep.of_wr W27).1
  have K27 : Keep h0 h27 [ob] := K21.wr W27 (Or.inl (List.mem_of_getElem? (i := 0) rfl))
  have N27 := Fr.snoc X27 N21 g_ob
  have c29 : Arv Z h27 ar kk .byte z vs dv := (c23.other W27 (Ne.symm ne_oar))
  obtain ⟨cl30, Ar30, -, Sz30, Nz30, -, -⟩ := id c29
  have c31 : Exa Z h27 ob "quorumkeep/store/Messages$Reader" := (c25.wr W27)
  have c32 : Fld Z h27 ob "quorumkeep/store/Messages$Reader" "read" "J" (.long (0 : Int64)) := ((((((F_read.other W3 (Or.inr (slot_ne (a0 := a0) (Or.inl (hw _ (List.mem_of_getElem? (i := 30) rfl))) (Or.inl (hw _ (List.mem_of_getElem? (i := 18) rfl))) (by decide) (t := .long) (t' := (.array .byte)) (by decide) (by decide)))).other W7 (Or.inr (slot_ne (a0 := a0) (Or.inl (hw _ (List.mem_of_getElem? (i := 30) rfl))) (Or.inr (hw _ (List.mem_of_getElem? (i := 20) rfl))) (by decide) (t := .long) (t' := (.object "java/io/InputStream")) (by decide) (by decide)))).other W13 (Or.inr (slot_ne (a0 := a0) (Or.inl (hw _ (List.mem_of_getElem? (i := 30) rfl))) (Or.inr (hw _ (List.mem_of_getElem? (i := 22) rfl))) (by decide) (t := .long) (t' := .long) (by decide) (by decide)))).other W17 (Or.inr (slot_ne (a0 := a0) (Or.inl (hw _ (List.mem_of_getElem? (i := 30) rfl))) (Or.inr (hw _ (List.mem_of_getElem? (i := 24) rfl))) (by decide) (t := .long) (t' := (.object "quorumkeep/base/HeapBudget")) (by decide) (by decide)))).other W21 (Or.inr (slot_ne (a0 := a0) (Or.inl (hw _ (List.mem_of_getElem? (i := 30) rfl))) (Or.inr (hw _ (List.mem_of_getElem? (i := 26) rfl))) (by decide) (t := .long) (t' := (.array .byte)) (by decide) (by decide)))).other W27 (Or.inr (slot_ne (a0 := a0) (Or.inl (hw _ (List.mem_of_getElem? (i := 30) rfl))) (Or.inl (hw _ (List.mem_of_getElem? (i := 28) rfl))) (by decide) (t := .long) (t' := .int) (by decide) (by decide))))
  obtain ⟨T33, h33, X33, e33, W33, st33⟩ := putF X27 hx hZ hown (host := "") (Or.inl (hw _ (List.mem_of_getElem? (i := 29) rfl))) Via.refl e27 c32 c31 (Or.inl (hw _ (List.mem_of_getElem? (i := 30) rfl))) (hw _ (List.mem_of_getElem? (i := 7) rfl)) (ty := .long) (by decide) rfl rfl (g := (mkF m 43 #[.val (.ref ob), .val (.ref ar)] [(.long (z.toInt64)), (.ref ob)])) rfl rfl (hb hby d2_43)
  have Fw33 : Fld Z h33 ob "quorumkeep/store/Messages$Reader" "read" "J" (.long (z.toInt64)) := c32.same W33
  have Z34 : n0 ≤ h33.size := Nat.le_trans Z28 (Keep.of_wr W33).1
  have K33 : Keep h0 h33 [ob] := K27.wr W33 (Or.inl (List.mem_of_getElem? (i := 0) rfl))
  have N33 := Fr.snoc X33 N27 g_ob
  have pre35 : ∀ t, Steps p.tables e below (T33.setTop (mkF m 46 #[.val (.ref ob), .val (.ref ar)] [])) t → Steps p.tables e below (s₁.setTop (entryFrame m #[(.ref ob), (.ref ar)] 2)) t := fun t k => by
    refine pre0 t ?_
    show Steps p.tables e below (s₁.setTop (mkF m 0 #[.val (.ref ob), .val (.ref ar)] [])) _
    refine XS.aloadN X0.here hx rfl (hb hby d2_0) rfl rfl ?_
    show Steps p.tables e below (s₁.setTop (mkF m 1 #[.val (.ref ob), .val (.ref ar)] [(.ref ob)])) _
    refine st1 _ ?_
    show Steps p.tables e below (T1.setTop (mkF m 4 #[.val (.ref ob), .val (.ref ar)] [])) _
    refine XS.aloadN X1.here hx rfl (hb hby d2_4) rfl rfl ?_
    show Steps p.tables e below (T1.setTop (mkF m 5 #[.val (.ref ob), .val (.ref ar)] [(.ref ob)])) _
    refine st2 _ ?_
    show Steps p.tables e below (T2.setTop (mkF m 8 #[.val (.ref ob), .val (.ref ar)] [(.ref ln), (.ref ob)])) _
    refine st3 _ ?_
    show Steps p.tables e below (T3.setTop (mkF m 11 #[.val (.ref ob), .val (.ref ar)] [])) _
    refine XS.aloadN X3.here hx rfl (hb hby d2_11) rfl rfl ?_
    show Steps p.tables e below (T3.setTop (mkF m 12 #[.val (.ref ob), .val (.ref ar)] [(.ref ob)])) _
    refine XS.aconstNull X3.here hx rfl (hb hby d2_12) ?_
    show Steps p.tables e below (T3.setTop (mkF m 13 #[.val (.ref ob), .val (.ref ar)] [.null, (.ref ob)])) _
    refine st7 _ ?_
    show Steps p.tables e below (T7.setTop (mkF m 16 #[.val (.ref ob), .val (.ref ar)] [])) _
    refine XS.aloadN X7.here hx rfl (hb hby d2_16) rfl rfl ?_
    show Steps p.tables e below (T7.setTop (mkF m 17 #[.val (.ref ob), .val (.ref ar)] [(.ref ob)])) _
    refine XS.aloadN X7.here hx rfl (hb hby d2_17) rfl rfl ?_
    show Steps p.tables e below (T7.setTop (mkF m 18 #[.val (.ref ob), .val (.ref ar)] [(.ref ar), (.ref ob)])) _
    refine X7.arraylength hx (by rw [e7]; exact Ar10.1) (State.isArrayOf_alike hZ.alike Ar10.2.1) (g := (mkF m 18 #[.val (.ref ob), .val (.ref ar)] [(.ref ar), (.ref ob)])) rfl rfl (hb hby d2_18) _ ?_
    rw [len_of Sz10 Nz10]
    show Steps p.tables e below (T7.setTop (mkF m 19 #[.val (.ref ob), .val (.ref ar)] [(.int z), (.ref ob)])) _
    refine XS.i2l X7.here hx rfl (hb hby d2_19) rfl ?_
    show Steps p.tables e below (T7.setTop (mkF m 20 #[.val (.ref ob), .val (.ref ar)] [(.long (z.toInt64)), (.ref ob)])) _
    refine st13 _ ?_
    show Steps p.tables e below (T13.setTop (mkF m 23 #[.val (.ref ob), .val (.ref ar)] [])) _
    refine XS.aloadN X13.here hx rfl (hb hby d2_23) rfl rfl ?_
    show Steps p.tables e below (T13.setTop (mkF m 24 #[.val (.ref ob), .val (.ref ar)] [(.ref ob)])) _
    refine XS.aconstNull X13.here hx rfl (hb hby d2_24) ?_
    show Steps p.tables e below (T13.setTop (mkF m 25 #[.val (.ref ob), .val (.ref ar)] [.null, (.ref ob)])) _
    refine st17 _ ?_
    show Steps p.tables e below (T17.setTop (mkF m 28 #[.val (.ref ob), .val (.ref ar)] [])) _
    refine XS.aloadN X17.here hx rfl (hb hby d2_28) rfl rfl ?_
    show Steps p.tables e below (T17.setTop (mkF m 29 #[.val (.ref ob), .val (.ref ar)] [(.ref ob)])) _
    refine XS.aloadN X17.here hx rfl (hb hby d2_29) rfl rfl ?_
    show Steps p.tables e below (T17.setTop (mkF m 30 #[.val (.ref ob), .val (.ref ar)] [(.ref ar), (.ref ob)])) _
    refine st21 _ ?_
    show Steps p.tables e below (T21.setTop (mkF m 33 #[.val (.ref ob), .val (.ref ar)] [])) _
    refine XS.aloadN X21.here hx rfl (hb hby d2_33) rfl rfl ?_
    show Steps p.tables e below (T21.setTop (mkF m 34 #[.val (.ref ob), .val (.ref ar)] [(.ref ob)])) _
    refine XS.aloadN X21.here hx rfl (hb hby d2_34) rfl rfl ?_
    show Steps p.tables e below (T21.setTop (mkF m 35 #[.val (.ref ob), .val (.ref ar)] [(.ref ar), (.ref ob)])) _
    refine X21.arraylength hx (by rw [e21]; exact Ar24.1) (State.isArrayOf_alike hZ.alike Ar24.2.1) (g := (mkF m 35 #[.val (.ref ob), .val (.ref ar)] [(.ref ar), (.ref ob)])) rfl rfl (hb hby d2_35) _ ?_
    rw [len_of Sz24 Nz24]
    show Steps p.tables e below (T21.setTop (mkF m 36 #[.val (.ref ob), .val (.ref ar)] [(.int z), (.ref ob)])) _
    refine st27 _ ?_
    show Steps p.tables e below (T27.setTop (mkF m 39 #[.val (.ref ob), .val (.ref ar)] [])) _
    refine XS.aloadN X27.here hx rfl (hb hby d2_39) rfl rfl ?_
    show Steps p.tables e below (T27.setTop (mkF m 40 #[.val (.ref ob), .val (.ref ar)] [(.ref ob)])) _
    refine XS.aloadN X27.here hx rfl (hb hby d2_40) rfl rfl ?_
    show Steps p.tables e below (T27.setTop (mkF m 41 #[.val (.ref ob), .val (.ref ar)] [(.ref ar), (.ref ob)])) _
    refine X27.arraylength hx (by rw [e27]; exact Ar30.1) (State.isArrayOf_alike hZ.alike Ar30.2.1) (g := (mkF m 41 #[.val (.ref ob), .val (.ref ar)] [(.ref ar), (.ref ob)])) rfl rfl (hb hby d2_41) _ ?_
    rw [len_of Sz30 Nz30]
    show Steps p.tables e below (T27.setTop (mkF m 42 #[.val (.ref ob), .val (.ref ar)] [(.int z), (.ref ob)])) _
    refine XS.i2l X27.here hx rfl (hb hby d2_42) rfl ?_
    show Steps p.tables e below (T27.setTop (mkF m 43 #[.val (.ref ob), .val (.ref ar)] [(.long (z.toInt64)), (.ref ob)])) _
    refine st33 _ ?_
    exact k
  obtain ⟨fs, hrq, hrun, hended, hW, hsame⟩ := X33.leave (v := none) (fun _ => rfl)
  refine ⟨_, _, pre35 _ ?_, hrun, hended, _, _, rfl, ?_, ⟨_, rfl⟩, hW, hsame.mono (by decide) (by decide)⟩
  · show Steps p.tables e below (T33.setTop (mkF m 46 #[.val (.ref ob), .val (.ref ar)] [])) _
    exact X33.returnOut hx Bd.returns (hb hby d2_46) hrq
  · show Qinit Z ob ar kk z vs dv ln h0 n0 _ T33.heap _
    rw [e33]
    have c36 : Exa Z h33 ob "quorumkeep/store/Messages$Reader" := (c31.wr W33)
    have c37 : Fld Z h33 ob "quorumkeep/store/Messages$Reader" "line" "[B" (.ref ln) := ((((((Fw3.other W7 (Or.inr (slot_ne (a0 := a0) (Or.inl (hw _ (List.mem_of_getElem? (i := 18) rfl))) (Or.inr (hw _ (List.mem_of_getElem? (i := 20) rfl))) (by decide) (t := (.array .byte)) (t' := (.object "java/io/InputStream")) (by decide) (by decide)))).other W13 (Or.inr (slot_ne (a0 := a0) (Or.inl (hw _ (List.mem_of_getElem? (i := 18) rfl))) (Or.inr (hw _ (List.mem_of_getElem? (i := 22) rfl))) (by decide) (t := (.array .byte)) (t' := .long) (by decide) (by decide)))).other W17 (Or.inr (slot_ne (a0 := a0) (Or.inl (hw _ (List.mem_of_getElem? (i := 18) rfl))) (Or.inr (hw _ (List.mem_of_getElem? (i := 24) rfl))) (by decide) (t := (.array .byte)) (t' := (.object "quorumkeep/base/HeapBudget")) (by decide) (by decide)))).other W21 (Or.inr (slot_ne (a0 := a0) (Or.inl (hw _ (List.mem_of_getElem? (i := 18) rfl))) (Or.inr (hw _ (List.mem_of_getElem? (i := 26) rfl))) (by decide) (t := (.array .byte)) (t' := (.array .byte)) (by decide) (by decide)))).other W27 (Or.inr (slot_ne (a0 := a0) (Or.inl (hw _ (List.mem_of_getElem? (i := 18) rfl))) (Or.inl (hw _ (List.mem_of_getElem? (i := 28) rfl))) (by decide) (t := (.array .byte)) (t' := .int) (by decide) (by decide)))).other W33 (Or.inr (slot_ne (a0 := a0) (Or.inl (hw _ (List.mem_of_getElem? (i := 18) rfl))) (Or.inl (hw _ (List.mem_of_getElem? (i := 30) rfl))) (by decide) (t := (.array .byte)) (t' := .long) (by decide) (by decide))))
    have c38 : Fld Z h33 ob "quorumkeep/store/Messages$Reader" "length" "J" (.long (z.toInt64)) := ((((Fw13.other W17 (Or.inr (slot_ne (a0 := a0) (Or.inr (hw _ (List.mem_of_getElem? (i := 22) rfl))) (Or.inr (hw _ (List.mem_of_getElem? (i := 24) rfl))) (by decide) (t := .long) (t' := (.object "quorumkeep/base/HeapBudget")) (by decide) (by decide)))).other W21 (Or.inr (slot_ne (a0 := a0) (Or.inr (hw _ (List.mem_of_getElem? (i := 22) rfl))) (Or.inr (hw _ (List.mem_of_getElem? (i := 26) rfl))) (by decide) (t := .long) (t' := (.array .byte)) (by decide) (by decide)))).other W27 (Or.inr (slot_ne (a0 := a0) (Or.inr (hw _ (List.mem_of_getElem? (i := 22) rfl))) (Or.inl (hw _ (List.mem_of_getElem? (i := 28) rfl))) (by decide) (t := .long) (t' := .int) (by decide) (by decide)))).other W33 (Or.inr (slot_ne (a0 := a0) (Or.inr (hw _ (List.mem_of_getElem? (i := 22) rfl))) (Or.inl (hw _ (List.mem_of_getElem? (i := 30) rfl))) (by decide) (t := .long) (t' := .long) (by decide) (by decide))))
    have c39 : Fld Z h33 ob "quorumkeep/store/Messages$Reader" "budget" "Lquorumkeep/base/HeapBudget;" .null := (((Fw17.other W21 (Or.inr (slot_ne (a0 := a0) (Or.inr (hw _ (List.mem_of_getElem? (i := 24) rfl))) (Or.inr (hw _ (List.mem_of_getElem? (i := 26) rfl))) (by decide) (t := (.object "quorumkeep/base/HeapBudget")) (t' := (.array .byte)) (by decide) (by decide)))).other W27 (Or.inr (slot_ne (a0 := a0) (Or.inr (hw _ (List.mem_of_getElem? (i := 24) rfl))) (Or.inl (hw _ (List.mem_of_getElem? (i := 28) rfl))) (by decide) (t := (.object "quorumkeep/base/HeapBudget")) (t' := .int) (by decide) (by decide)))).other W33 (Or.inr (slot_ne (a0 := a0) (Or.inr (hw _ (List.mem_of_getElem? (i := 24) rfl))) (Or.inl (hw _ (List.mem_of_getElem? (i := 30) rfl))) (by decide) (t := (.object "quorumkeep/base/HeapBudget")) (t' := .long) (by decide) (by decide))))
    have c40 : Fld Z h33 ob "quorumkeep/store/Messages$Reader" "buffer" "[B" (.ref ar) := ((Fw21.other W27 (Or.inr (slot_ne (a0 := a0) (Or.inr (hw _ (List.mem_of_getElem? (i := 26) rfl))) (Or.inl (hw _ (List.mem_of_getElem? (i := 28) rfl))) (by decide) (t := (.array .byte)) (t' := .int) (by decide) (by decide)))).other W33 (Or.inr (slot_ne (a0 := a0) (Or.inr (hw _ (List.mem_of_getElem? (i := 26) rfl))) (Or.inl (hw _ (List.mem_of_getElem? (i := 30) rfl))) (by decide) (t := (.array .byte)) (t' := .long) (by decide) (by decide))))
    have c41 : Fld Z h33 ob "quorumkeep/store/Messages$Reader" "end" "I" (.int z) := (Fw27.other W33 (Or.inr (slot_ne (a0 := a0) (Or.inl (hw _ (List.mem_of_getElem? (i := 28) rfl))) (Or.inl (hw _ (List.mem_of_getElem? (i := 30) rfl))) (by decide) (t := .int) (t' := .long) (by decide) (by decide))))
    have c42 : Fld Z h33 ob "quorumkeep/store/Messages$Reader" "start" "I" (.int (0 : Int32)) := (((((((F_start.other W3 (Or.inr (slot_ne (a0 := a0) (Or.inl (hw _ (List.mem_of_getElem? (i := 37) rfl))) (Or.inl (hw _ (List.mem_of_getElem? (i := 18) rfl))) (by decide) (t := .int) (t' := (.array .byte)) (by decide) (by decide)))).other W7 (Or.inr (slot_ne (a0 := a0) (Or.inl (hw _ (List.mem_of_getElem? (i := 37) rfl))) (Or.inr (hw _ (List.mem_of_getElem? (i := 20) rfl))) (by decide) (t := .int) (t' := (.object "java/io/InputStream")) (by decide) (by decide)))).other W13 (Or.inr (slot_ne (a0 := a0) (Or.inl (hw _ (List.mem_of_getElem? (i := 37) rfl))) (Or.inr (hw _ (List.mem_of_getElem? (i := 22) rfl))) (by decide) (t := .int) (t' := .long) (by decide) (by decide)))).other W17 (Or.inr (slot_ne (a0 := a0) (Or.inl (hw _ (List.mem_of_getElem? (i := 37) rfl))) (Or.inr (hw _ (List.mem_of_getElem? (i := 24) rfl))) (by decide) (t := .int) (t' := (.object "quorumkeep/base/HeapBudget")) (by decide) (by decide)))).other W21 (Or.inr (slot_ne (a0 := a0) (Or.inl (hw _ (List.mem_of_getElem? (i := 37) rfl))) (Or.inr (hw _ (List.mem_of_getElem? (i := 26) rfl))) (by decide) (t := .int) (t' := (.array .byte)) (by decide) (by decide)))).other W27 (Or.inr (slot_ne (a0 := a0) (Or.inl (hw _ (List.mem_of_getElem? (i := 37) rfl))) (Or.inl (hw _ (List.mem_of_getElem? (i := 28) rfl))) (by decide) (t := .int) (t' := .int) (by decide) (by decide)))).other W33 (Or.inr (slot_ne (a0 := a0) (Or.inl (hw _ (List.mem_of_getElem? (i := 37) rfl))) (Or.inl (hw _ (List.mem_of_getElem? (i := 30) rfl))) (by decide) (t := .int) (t' := .long) (by decide) (by decide))))
    have c43 : Fld Z h33 ob "quorumkeep/store/Messages$Reader" "held" "I" (.int (0 : Int32)) := (((((((F_held.other W3 (Or.inr (slot_ne (a0 := a0) (Or.inl (hw _ (List.mem_of_getElem? (i := 49) rfl))) (Or.inl (hw _ (List.mem_of_getElem? (i := 18) rfl))) (by decide) (t := .int) (t' := (.array .byte)) (by decide) (by decide)))).other W7 (Or.inr (slot_ne (a0 := a0) (Or.inl (hw _ (List.mem_of_getElem? (i := 49) rfl))) (Or.inr (hw _ (List.mem_of_getElem? (i := 20) rfl))) (by decide) (t := .int) (t' := (.object "java/io/InputStream")) (by decide) (by decide)))).other W13 (Or.inr (slot_ne (a0 := a0) (Or.inl (hw _ (List.mem_of_getElem? (i := 49) rfl))) (Or.inr (hw _ (List.mem_of_getElem? (i := 22) rfl))) (by decide) (t := .int) (t' := .long) (by decide) (by decide)))).other W17 (Or.inr (slot_ne (a0 := a0) (Or.inl (hw _ (List.mem_of_getElem? (i := 49) rfl))) (Or.inr (hw _ (List.mem_of_getElem? (i := 24) rfl))) (by decide) (t := .int) (t' := (.object "quorumkeep/base/HeapBudget")) (by decide) (by decide)))).other W21 (Or.inr (slot_ne (a0 := a0) (Or.inl (hw _ (List.mem_of_getElem? (i := 49) rfl))) (Or.inr (hw _ (List.mem_of_getElem? (i := 26) rfl))) (by decide) (t := .int) (t' := (.array .byte)) (by decide) (by decide)))).other W27 (Or.inr (slot_ne (a0 := a0) (Or.inl (hw _ (List.mem_of_getElem? (i := 49) rfl))) (Or.inl (hw _ (List.mem_of_getElem? (i := 28) rfl))) (by decide) (t := .int) (t' := .int) (by decide) (by decide)))).other W33 (Or.inr (slot_ne (a0 := a0) (Or.inl (hw _ (List.mem_of_getElem? (i := 49) rfl))) (Or.inl (hw _ (List.mem_of_getElem? (i := 30) rfl))) (by decide) (t := .int) (t' := .long) (by decide) (by decide))))
    have c44 : Fld Z h33 ob "quorumkeep/store/Messages$Reader" "atEnd" "Z" (.int (0 : Int32)) := (((((((F_atEnd.other W3 (Or.inr (slot_ne (a0 := a0) (Or.inl (hw _ (List.mem_of_getElem? (i := 68) rfl))) (Or.inl (hw _ (List.mem_of_getElem? (i := 18) rfl))) (by decide) (t := .boolean) (t' := (.array .byte)) (by decide) (by decide)))).other W7 (Or.inr (slot_ne (a0 := a0) (Or.inl (hw _ (List.mem_of_getElem? (i := 68) rfl))) (Or.inr (hw _ (List.mem_of_getElem? (i := 20) rfl))) (by decide) (t := .boolean) (t' := (.object "java/io/InputStream")) (by decide) (by decide)))).other W13 (Or.inr (slot_ne (a0 := a0) (Or.inl (hw _ (List.mem_of_getElem? (i := 68) rfl))) (Or.inr (hw _ (List.mem_of_getElem? (i := 22) rfl))) (by decide) (t := .boolean) (t' := .long) (by decide) (by decide)))).other W17 (Or.inr (slot_ne (a0 := a0) (Or.inl (hw _ (List.mem_of_getElem? (i := 68) rfl))) (Or.inr (hw _ (List.mem_of_getElem? (i := 24) rfl))) (by decide) (t := .boolean) (t' := (.object "quorumkeep/base/HeapBudget")) (by decide) (by decide)))).other W21 (Or.inr (slot_ne (a0 := a0) (Or.inl (hw _ (List.mem_of_getElem? (i := 68) rfl))) (Or.inr (hw _ (List.mem_of_getElem? (i := 26) rfl))) (by decide) (t := .boolean) (t' := (.array .byte)) (by decide) (by decide)))).other W27 (Or.inr (slot_ne (a0 := a0) (Or.inl (hw _ (List.mem_of_getElem? (i := 68) rfl))) (Or.inl (hw _ (List.mem_of_getElem? (i := 28) rfl))) (by decide) (t := .boolean) (t' := .int) (by decide) (by decide)))).other W33 (Or.inr (slot_ne (a0 := a0) (Or.inl (hw _ (List.mem_of_getElem? (i := 68) rfl))) (Or.inl (hw _ (List.mem_of_getElem? (i := 30) rfl))) (by decide) (t := .boolean) (t' := .long) (by decide) (by decide))))
    have c45 : Fld Z h33 ob "quorumkeep/store/Messages$Reader" "size" "I" (.int (0 : Int32)) := (((((((F_size.other W3 (Or.inr (slot_ne (a0 := a0) (Or.inl (hw _ (List.mem_of_getElem? (i := 51) rfl))) (Or.inl (hw _ (List.mem_of_getElem? (i := 18) rfl))) (by decide) (t := .int) (t' := (.array .byte)) (by decide) (by decide)))).other W7 (Or.inr (slot_ne (a0 := a0) (Or.inl (hw _ (List.mem_of_getElem? (i := 51) rfl))) (Or.inr (hw _ (List.mem_of_getElem? (i := 20) rfl))) (by decide) (t := .int) (t' := (.object "java/io/InputStream")) (by decide) (by decide)))).other W13 (Or.inr (slot_ne (a0 := a0) (Or.inl (hw _ (List.mem_of_getElem? (i := 51) rfl))) (Or.inr (hw _ (List.mem_of_getElem? (i := 22) rfl))) (by decide) (t := .int) (t' := .long) (by decide) (by decide)))).other W17 (Or.inr (slot_ne (a0 := a0) (Or.inl (hw _ (List.mem_of_getElem? (i := 51) rfl))) (Or.inr (hw _ (List.mem_of_getElem? (i := 24) rfl))) (by decide) (t := .int) (t' := (.object "quorumkeep/base/HeapBudget")) (by decide) (by decide)))).other W21 (Or.inr (slot_ne (a0 := a0) (Or.inl (hw _ (List.mem_of_getElem? (i := 51) rfl))) (Or.inr (hw _ (List.mem_of_getElem? (i := 26) rfl))) (by decide) (t := .int) (t' := (.array .byte)) (by decide) (by decide)))).other W27 (Or.inr (slot_ne (a0 := a0) (Or.inl (hw _ (List.mem_of_getElem? (i := 51) rfl))) (Or.inl (hw _ (List.mem_of_getElem? (i := 28) rfl))) (by decide) (t := .int) (t' := .int) (by decide) (by decide)))).other W33 (Or.inr (slot_ne (a0 := a0) (Or.inl (hw _ (List.mem_of_getElem? (i := 51) rfl))) (Or.inl (hw _ (List.mem_of_getElem? (i := 30) rfl))) (by decide) (t := .int) (t' := .long) (by decide) (by decide))))
    have c46 : Fld Z h33 ob "quorumkeep/store/Messages$Reader" "keepable" "I" (.int (0 : Int32)) := (((((((F_keepable.other W3 (Or.inr (slot_ne (a0 := a0) (Or.inl (hw _ (List.mem_of_getElem? (i := 54) rfl))) (Or.inl (hw _ (List.mem_of_getElem? (i := 18) rfl))) (by decide) (t := .int) (t' := (.array .byte)) (by decide) (by decide)))).other W7 (Or.inr (slot_ne (a0 := a0) (Or.inl (hw _ (List.mem_of_getElem? (i := 54) rfl))) (Or.inr (hw _ (List.mem_of_getElem? (i := 20) rfl))) (by decide) (t := .int) (t' := (.object "java/io/InputStream")) (by decide) (by decide)))).other W13 (Or.inr (slot_ne (a0 := a0) (Or.inl (hw _ (List.mem_of_getElem? (i := 54) rfl))) (Or.inr (hw _ (List.mem_of_getElem? (i := 22) rfl))) (by decide) (t := .int) (t' := .long) (by decide) (by decide)))).other W17 (Or.inr (slot_ne (a0 := a0) (Or.inl (hw _ (List.mem_of_getElem? (i := 54) rfl))) (Or.inr (hw _ (List.mem_of_getElem? (i := 24) rfl))) (by decide) (t := .int) (t' := (.object "quorumkeep/base/HeapBudget")) (by decide) (by decide)))).other W21 (Or.inr (slot_ne (a0 := a0) (Or.inl (hw _ (List.mem_of_getElem? (i := 54) rfl))) (Or.inr (hw _ (List.mem_of_getElem? (i := 26) rfl))) (by decide) (t := .int) (t' := (.array .byte)) (by decide) (by decide)))).other W27 (Or.inr (slot_ne (a0 := a0) (Or.inl (hw _ (List.mem_of_getElem? (i := 54) rfl))) (Or.inl (hw _ (List.mem_of_getElem? (i := 28) rfl))) (by decide) (t := .int) (t' := .int) (by decide) (by decide)))).other W33 (Or.inr (slot_ne (a0 := a0) (Or.inl (hw _ (List.mem_of_getElem? (i := 54) rfl))) (Or.inl (hw _ (List.mem_of_getElem? (i := 30) rfl))) (by decide) (t := .int) (t' := .long) (by decide) (by decide))))
    exact ⟨rfl, N33, K33, ⟨c36, c37, c38, c39, c40, c41, Fw33, c42, c43, c44, ⟨_, c45⟩, ⟨_, c46⟩⟩⟩
theorem pd_6 : parseMethodDescriptor "()V" = some ⟨[], none⟩ := by decide +kernel
theorem pd_7 : parseMethodDescriptor "()Z" = some ⟨[], some .boolean⟩ := by decide +kernel
theorem pd_8 : parseMethodDescriptor "(I)[B" = some ⟨[.int], some (.array .byte)⟩ := by decide +kernel
theorem d5_0 : decode prog_163_method_4_code 0 = .ok (.aload_n 0, 1) := by decide +kernel
theorem d5_1 : decode prog_163_method_4_code 1 = .ok (.invokevirtual 56, 3) := by decide +kernel
theorem d5_4 : decode prog_163_method_4_code 4 = .ok (.aload_n 0, 1) := by decide +kernel
theorem d5_5 : decode prog_163_method_4_code 5 = .ok (.iconst 0, 1) := by decide +kernel
theorem d5_6 : decode prog_163_method_4_code 6 = .ok (.putfield 59, 3) := by decide +kernel
theorem d5_9 : decode prog_163_method_4_code 9 = .ok (.aload_n 0, 1) := by decide +kernel
theorem d5_10 : decode prog_163_method_4_code 10 = .ok (.aload_n 0, 1) := by decide +kernel
theorem d5_11 : decode prog_163_method_4_code 11 = .ok (.getfield 31, 3) := by decide +kernel
theorem d5_14 : decode prog_163_method_4_code 14 = .ok (.ifnonnull 8, 3) := by decide +kernel
theorem d5_17 : decode prog_163_method_4_code 17 = .ok (.ldc 62, 2) := by decide +kernel
theorem d5_19 : decode prog_163_method_4_code 19 = .ok (.goto 5, 3) := by decide +kernel
theorem d5_24 : decode prog_163_method_4_code 24 = .ok (.putfield 66, 3) := by decide +kernel
theorem d5_27 : decode prog_163_method_4_code 27 = .ok (.aload_n 0, 1) := by decide +kernel
theorem d5_28 : decode prog_163_method_4_code 28 = .ok (.getfield 69, 3) := by decide +kernel
theorem d5_31 : decode prog_163_method_4_code 31 = .ok (.istore_n 1, 1) := by decide +kernel
theorem d5_32 : decode prog_163_method_4_code 32 = .ok (.iload_n 1, 1) := by decide +kernel
theorem d5_33 : decode prog_163_method_4_code 33 = .ok (.aload_n 0, 1) := by decide +kernel
theorem d5_34 : decode prog_163_method_4_code 34 = .ok (.getfield 49, 3) := by decide +kernel
theorem d5_37 : decode prog_163_method_4_code 37 = .ok (.if_icmp .ge 20, 3) := by decide +kernel
theorem d5_40 : decode prog_163_method_4_code 40 = .ok (.aload_n 0, 1) := by decide +kernel
theorem d5_41 : decode prog_163_method_4_code 41 = .ok (.getfield 46, 3) := by decide +kernel
theorem d5_44 : decode prog_163_method_4_code 44 = .ok (.iload_n 1, 1) := by decide +kernel
theorem d5_45 : decode prog_163_method_4_code 45 = .ok (.baload, 1) := by decide +kernel
theorem d5_46 : decode prog_163_method_4_code 46 = .ok (.bipush 10, 2) := by decide +kernel
theorem d5_48 : decode prog_163_method_4_code 48 = .ok (.if_icmp .eq 9, 3) := by decide +kernel
theorem d5_51 : decode prog_163_method_4_code 51 = .ok (.iinc 1 1, 3) := by decide +kernel
theorem d5_54 : decode prog_163_method_4_code 54 = .ok (.goto (-22), 3) := by decide +kernel
theorem d5_57 : decode prog_163_method_4_code 57 = .ok (.iload_n 1, 1) := by decide +kernel
theorem d5_58 : decode prog_163_method_4_code 58 = .ok (.aload_n 0, 1) := by decide +kernel
theorem d5_59 : decode prog_163_method_4_code 59 = .ok (.getfield 49, 3) := by decide +kernel
theorem d5_62 : decode prog_163_method_4_code 62 = .ok (.if_icmp .ge 56, 3) := by decide +kernel
theorem d5_65 : decode prog_163_method_4_code 65 = .ok (.aload_n 0, 1) := by decide +kernel
theorem d5_66 : decode prog_163_method_4_code 66 = .ok (.getfield 59, 3) := by decide +kernel
theorem d5_69 : decode prog_163_method_4_code 69 = .ok (.ifCond .ne 49, 3) := by decide +kernel
theorem d5_72 : decode prog_163_method_4_code 72 = .ok (.aload_n 0, 1) := by decide +kernel
theorem d5_73 : decode prog_163_method_4_code 73 = .ok (.getfield 69, 3) := by decide +kernel
theorem d5_76 : decode prog_163_method_4_code 76 = .ok (.istore_n 2, 1) := by decide +kernel
theorem d5_77 : decode prog_163_method_4_code 77 = .ok (.aload_n 0, 1) := by decide +kernel
theorem d5_78 : decode prog_163_method_4_code 78 = .ok (.iload_n 1, 1) := by decide +kernel
theorem d5_79 : decode prog_163_method_4_code 79 = .ok (.iconst 1, 1) := by decide +kernel
theorem d5_80 : decode prog_163_method_4_code 80 = .ok (.iadd, 1) := by decide +kernel
theorem d5_81 : decode prog_163_method_4_code 81 = .ok (.putfield 69, 3) := by decide +kernel
theorem d5_84 : decode prog_163_method_4_code 84 = .ok (.aload_n 0, 1) := by decide +kernel
theorem d5_85 : decode prog_163_method_4_code 85 = .ok (.getfield 46, 3) := by decide +kernel
theorem d5_88 : decode prog_163_method_4_code 88 = .ok (.iload_n 2, 1) := by decide +kernel
theorem d5_89 : decode prog_163_method_4_code 89 = .ok (.iload_n 1, 1) := by decide +kernel
theorem d5_90 : decode prog_163_method_4_code 90 = .ok (.iload_n 2, 1) := by decide +kernel
theorem d5_91 : decode prog_163_method_4_code 91 = .ok (.if_icmp .le 22, 3) := by decide +kernel
theorem d5_94 : decode prog_163_method_4_code 94 = .ok (.aload_n 0, 1) := by decide +kernel
theorem d5_95 : decode prog_163_method_4_code 95 = .ok (.getfield 46, 3) := by decide +kernel
theorem d5_98 : decode prog_163_method_4_code 98 = .ok (.iload_n 1, 1) := by decide +kernel
theorem d5_99 : decode prog_163_method_4_code 99 = .ok (.iconst 1, 1) := by decide +kernel
theorem d5_100 : decode prog_163_method_4_code 100 = .ok (.isub, 1) := by decide +kernel
theorem d5_101 : decode prog_163_method_4_code 101 = .ok (.baload, 1) := by decide +kernel
theorem d5_102 : decode prog_163_method_4_code 102 = .ok (.bipush 13, 2) := by decide +kernel
theorem d5_104 : decode prog_163_method_4_code 104 = .ok (.if_icmp .ne 9, 3) := by decide +kernel
theorem d5_107 : decode prog_163_method_4_code 107 = .ok (.iload_n 1, 1) := by decide +kernel
theorem d5_108 : decode prog_163_method_4_code 108 = .ok (.iconst 1, 1) := by decide +kernel
theorem d5_109 : decode prog_163_method_4_code 109 = .ok (.isub, 1) := by decide +kernel
theorem d5_110 : decode prog_163_method_4_code 110 = .ok (.goto 4, 3) := by decide +kernel
theorem d5_113 : decode prog_163_method_4_code 113 = .ok (.iload_n 1, 1) := by decide +kernel
theorem d5_114 : decode prog_163_method_4_code 114 = .ok (.invokestatic 72, 3) := by decide +kernel
theorem d5_117 : decode prog_163_method_4_code 117 = .ok (.areturn, 1) := by decide +kernel
theorem d5_118 : decode prog_163_method_4_code 118 = .ok (.aload_n 0, 1) := by decide +kernel
theorem d5_119 : decode prog_163_method_4_code 119 = .ok (.iload_n 1, 1) := by decide +kernel
theorem d5_120 : decode prog_163_method_4_code 120 = .ok (.invokevirtual 78, 3) := by decide +kernel
theorem d5_123 : decode prog_163_method_4_code 123 = .ok (.iload_n 1, 1) := by decide +kernel
theorem d5_124 : decode prog_163_method_4_code 124 = .ok (.aload_n 0, 1) := by decide +kernel
theorem d5_125 : decode prog_163_method_4_code 125 = .ok (.getfield 49, 3) := by decide +kernel
theorem d5_128 : decode prog_163_method_4_code 128 = .ok (.if_icmp .ge 51, 3) := by decide +kernel
theorem d5_179 : decode prog_163_method_4_code 179 = .ok (.aload_n 0, 1) := by decide +kernel
theorem d5_180 : decode prog_163_method_4_code 180 = .ok (.aload_n 0, 1) := by decide +kernel
theorem d5_181 : decode prog_163_method_4_code 181 = .ok (.getfield 49, 3) := by decide +kernel
theorem d5_184 : decode prog_163_method_4_code 184 = .ok (.putfield 69, 3) := by decide +kernel
theorem d5_187 : decode prog_163_method_4_code 187 = .ok (.aload_n 0, 1) := by decide +kernel
theorem d5_188 : decode prog_163_method_4_code 188 = .ok (.invokevirtual 86, 3) := by decide +kernel
theorem d5_191 : decode prog_163_method_4_code 191 = .ok (.ifCond .ne 23, 3) := by decide +kernel
theorem d5_194 : decode prog_163_method_4_code 194 = .ok (.aload_n 0, 1) := by decide +kernel
theorem d5_195 : decode prog_163_method_4_code 195 = .ok (.getfield 59, 3) := by decide +kernel
theorem d5_198 : decode prog_163_method_4_code 198 = .ok (.ifCond .ne 7, 3) := by decide +kernel
theorem d5_205 : decode prog_163_method_4_code 205 = .ok (.aload_n 0, 1) := by decide +kernel
theorem d5_206 : decode prog_163_method_4_code 206 = .ok (.aload_n 0, 1) := by decide +kernel
theorem d5_207 : decode prog_163_method_4_code 207 = .ok (.getfield 59, 3) := by decide +kernel
theorem d5_210 : decode prog_163_method_4_code 210 = .ok (.invokevirtual 82, 3) := by decide +kernel
theorem d5_213 : decode prog_163_method_4_code 213 = .ok (.areturn, 1) := by decide +kernel
theorem ef_rmnextY (m : MethodId) (x0 : Addr) : entryFrame m #[(.ref x0)] 3 = mkF m 0 #[.val (.ref x0), .unset, .unset] [] := by first | (simp [entryFrame, mkF, argsToLocals, Value.category]; done) | rfl
def QnextY (Z : State) (ob : Addr) (ar : Addr) (kk : ClassId) (z : Int32) (vs : List Value) (dv : Value) (ln : Addr) (kl : ClassId) (s : Int32) (h0 : Heap) (n0 : Nat) (v : Option Value) (h : Heap) (L : List Loc) : Prop := ∃ x : Addr, v = some (.ref x) ∧ Fr n0 L ∧ Keep h0 h [ob] ∧ ∃ l2 : Addr, own_rd Z h ob ar z (own_after vs dv z s) l2 ∧ ((own_after vs dv z s) < z → l2 = ln)
set_option maxRecDepth 65536 in
set_option maxHeartbeats 40000000 in
theorem rmnextY (l : Launch) (Z : State) (a0 : Array Value) (hw : ∀ d ∈ tables_1, d.before a0 Z = true) (ws : List Jvm.Cond) (ob : Addr) (ar : Addr) (kk : ClassId) (z : Int32) (vs : List Value) (dv : Value) (ln : Addr) (kl : ClassId) (s : Int32) (h0 : Heap) (n0 : Nat) (Z0 : n0 ≤ h0.size) (RD : own_rd Z h0 ob ar z s ln) (V_ln : Arv Z h0 ln kl .byte (0 : Int32) [] (.int (0 : Int32))) (V_ar : Arv Z h0 ar kk .byte z vs dv) (hB : 0 ≤ s.toInt ∧ s.toInt < z.toInt ∧ z.toInt ≤ 4) (g_ob : n0 ≤ ob) :
    MetFree l (⟨"quorumkeep/store/Messages$Reader", "next", "()[B"⟩ : MethodName) (head1 (Jvm.Cond.code (⟨"quorumkeep/store/Messages$Reader", "next", "()[B"⟩ : MethodName) prog_163_method_4_code 3 (some (.array .byte)) :: ws) ({ frames := 4, cells := 2, slots := 8, locals := 62 } : Room)) (fun a U => a = #[(.ref ob)] ∧ Z.Warmed39 U.vm ∧ U.heap = h0) (fun _ _ _ _ _ => True) (fun _ U o U' => ∃ v L, o = .returned v ∧ QnextY Z ob ar kk z vs dv ln kl s h0 n0 v U'.heap L ∧ FrameEnd U o U' L ({ frames := 4, cells := 2, slots := 8, locals := 62 } : Room).cells ({ frames := 4, cells := 2, slots := 8, locals := 62 } : Room).slots) := by
  refine MetFree.of_bodySF (plainFor_of_name pn_1) hisR ?_
  intro p e s0 m args below meth c s₁ Bd hml0 hP hK
  obtain ⟨rfl, hZ, hh⟩ := hP
  have hx := Bd.exec
  have hby := Bd.bytes
  have hml : c.maxLocals = 3 := hml0
  have hown : s0.vm.findClass "quorumkeep/store/Messages$Reader" = some m.cls := findClass_of_methodNamed Bd.named
  have hnm := (name_of_methodNamed Bd.named Bd.method).1
  have X0 : Stand p l e ({ frames := 4, cells := 2, slots := 8, locals := 62 } : Room) s0 m #[(.ref ob)] below meth c s₁ [] 0 0 := Stand.of_body Bd
  have e0 : s₁.heap = h0 := by rw [← hh, Bd.state]; rfl
  have N0 := Fr.nil n0
  have pre0 : ∀ t, Steps p.tables e below (s₁.setTop (mkF m 0 #[.val (.ref ob), .unset, .unset] [])) t → Steps p.tables e below (s₁.setTop (entryFrame m #[(.ref ob)] 3)) t := fun t k => castTop (ef_rmnextY m ob) k
  have rdc := RD
  obtain ⟨E_ob, F_line, F_length, F_budget, F_buffer, F_end, F_read, F_start, F_held, F_atEnd, ⟨u_size, F_size⟩, ⟨u_keep, F_keepable⟩⟩ := rdc
  have ne_oar : ob ≠ ar := own_ne_arv E_ob (hw _ (List.mem_of_getElem? (i := 7) rfl)) V_ar
  have ne_oln : ob ≠ ln := own_ne_arv E_ob (hw _ (List.mem_of_getElem? (i := 7) rfl)) V_ln
  obtain ⟨cq1, kq1, q1a, q1b, q1c⟩ := isOf hZ e0 E_ob
  obtain ⟨_, _, ⟨T1, L1, k1, n1⟩, -, X1, ⟨Lc1, hQ1, l1, y1, z1⟩, st1⟩ := X0.virtualBack hx (y := (⟨"quorumkeep/store/Messages$Reader", "release", "()V"⟩ : MethodName)) (z := (⟨"quorumkeep/store/Messages$Reader", "release", "()V"⟩ : MethodName)) hown (mvT hZ (hw _ (List.mem_of_getElem? (i := 43) rfl))) (mvT hZ (hw _ (List.mem_of_getElem? (i := 44) rfl))) (notFace_of_selects (args := #[]) (mvT hZ (hw _ (List.mem_of_getElem? (i := 46) rfl)))) (mvT hZ (hw _ (List.mem_of_getElem? (i := 46) rfl))) (mvT hZ (hw _ (List.mem_of_getElem? (i := 45) rfl))) (by decide) (backOf (W := 0) (rmrel l Z a0 hw [] ob h0 n0 Z0 F_held) hZ (hw _ (List.mem_of_getElem? (i := 47) rfl)) (hw _ (List.mem_of_getElem? (i := 8) rfl)) (by decide) (by decide)) q1a q1c (g := (mkF m 1 #[.val (.ref ob), .unset, .unset] [(.ref ob)])) rfl (by rw [hml]; rfl) (Steps.refl _) (argsL := []) (rest := []) (lenOf pd_6 rfl) rfl (by show 2 * 0 + _ ≤ _; exact Nat.le_of_eq rfl) (hb hby d5_1) (fun _ _ => ⟨rfl, e0, (by decide : 0 + 0 ≤ _), (by decide : 0 + 0 ≤ _)⟩)
  dsimp only [Pt.U, Pt.locs, Pt.cells, Pt.slots] at X1 l1 y1 z1 st1 hQ1
  subst l1 y1 z1
  obtain ⟨rfl, Nq1, hh1⟩ := hQ1
  have N1 := Fr.app N0 Nq1
  have e1 : T1.heap = h0 := hh1
  obtain ⟨T2, h2, X2, e2, W2, st2⟩ := putF X1 hx hZ hown (host := "") (Or.inl (hw _ (List.mem_of_getElem? (i := 50) rfl))) Via.refl e1 F_size E_ob (Or.inl (hw _ (List.mem_of_getElem? (i := 51) rfl))) (hw _ (List.mem_of_getElem? (i := 7) rfl)) (ty := .int) (by decide) rfl rfl (g := (mkF m 6 #[.val (.ref ob), .unset, .unset] [(.int (0 : Int32)), (.ref ob)])) rfl rfl (hb hby d5_6)
  have Fw2 : Fld Z h2 ob "quorumkeep/store/Messages$Reader" "size" "I" (.int (0 : Int32)) := F_size.same W2
  have Z3 : n0 ≤ h2.size := Nat.le_trans Z0 (Keep.of_wr W2).1
  have K2 : Keep h0 h2 [ob] := (Keep.refl h0 [ob]).wr W2 (Or.inl (List.mem_of_getElem? (i := 0) rfl))
  have N2 := Fr.snoc X2 N1 g_ob
  have c4 : Fld Z h2 ob "quorumkeep/store/Messages$Reader" "budget" "Lquorumkeep/base/HeapBudget;" .null := (F_budget.other W2 (Or.inr (slot_ne (a0 := a0) (Or.inr (hw _ (List.mem_of_getElem? (i := 24) rfl))) (Or.inl (hw _ (List.mem_of_getElem? (i := 51) rfl))) (by decide) (t := (.object "quorumkeep/base/HeapBudget")) (t' := .int) (by decide) (by decide))))
  obtain ⟨T5, X5, e5, st5⟩ := getF X2 hx hZ hown (host := "") (Or.inl (hw _ (List.mem_of_getElem? (i := 23) rfl))) Via.refl e2 c4 (g := (mkF m 11 #[.val (.ref ob), .unset, .unset] [(.ref ob), (.ref ob)])) rfl rfl (hb hby d5_11)
  have c6 : Exa Z h2 ob "quorumkeep/store/Messages$Reader" := (E_ob.wr W2)
  have c7 : Fld Z h2 ob "quorumkeep/store/Messages$Reader" "keepable" "I" (.int u_keep) := (F_keepable.other W2 (Or.inr (slot_ne (a0 := a0) (Or.inl (hw _ (List.mem_of_getElem? (i := 54) rfl))) (Or.inl (hw _ (List.mem_of_getElem? (i := 51) rfl))) (by decide) (t := .int) (t' := .int) (by decide) (by decide))))
  obtain ⟨T8, h8, X8, e8, W8, st8⟩ := putF X5 hx hZ hown (host := "") (Or.inl (hw _ (List.mem_of_getElem? (i := 53) rfl))) Via.refl e5 c7 c6 (Or.inl (hw _ (List.mem_of_getElem? (i := 54) rfl))) (hw _ (List.mem_of_getElem? (i := 7) rfl)) (ty := .int) (by decide) rfl rfl (g := (mkF m 24 #[.val (.ref ob), .unset, .unset] [(.int (4194306 : Int32)), (.ref ob)])) rfl rfl (hb hby d5_24)
  have Fw8 : Fld Z h8 ob "quorumkeep/store/Messages$Reader" "keepable" "I" (.int (4194306 : Int32)) := c7.same W8
  have Z9 : n0 ≤ h8.size := Nat.le_trans Z3 (Keep.of_wr W8).1
  have K8 : Keep h0 h8 [ob] := K2.wr W8 (Or.inl (List.mem_of_getElem? (i := 0) rfl))
  have N8 := Fr.snoc X8 N2 g_ob
  have c10 : Fld Z h8 ob "quorumkeep/store/Messages$Reader" "start" "I" (.int s) := ((F_start.other W2 (Or.inr (slot_ne (a0 := a0) (Or.inl (hw _ (List.mem_of_getElem? (i := 37) rfl))) (Or.inl (hw _ (List.mem_of_getElem? (i := 51) rfl))) (by decide) (t := .int) (t' := .int) (by decide) (by decide)))).other W8 (Or.inr (slot_ne (a0 := a0) (Or.inl (hw _ (List.mem_of_getElem? (i := 37) rfl))) (Or.inl (hw _ (List.mem_of_getElem? (i := 54) rfl))) (by decide) (t := .int) (t' := .int) (by decide) (by decide))))
  obtain ⟨T11, X11, e11, st11⟩ := getF X8 hx hZ hown (host := "") (Or.inl (hw _ (List.mem_of_getElem? (i := 36) rfl))) Via.refl e8 c10 (g := (mkF m 28 #[.val (.ref ob), .unset, .unset] [(.ref ob)])) rfl rfl (hb hby d5_28)
  have pre12 : ∀ t, Steps p.tables e below (T11.setTop (mkF m 32 #[.val (.ref ob), .val (.int s), .unset] [])) t → Steps p.tables e below (s₁.setTop (entryFrame m #[(.ref ob)] 3)) t := fun t k => by
    refine pre0 t ?_
    show Steps p.tables e below (s₁.setTop (mkF m 0 #[.val (.ref ob), .unset, .unset] [])) _
    refine XS.aloadN X0.here hx rfl (hb hby d5_0) rfl rfl ?_
    show Steps p.tables e below (s₁.setTop (mkF m 1 #[.val (.ref ob), .unset, .unset] [(.ref ob)])) _
    refine st1.trans ?_
    show Steps p.tables e below (T1.setTop (mkF m 4 #[.val (.ref ob), .unset, .unset] [])) _
    refine XS.aloadN X1.here hx rfl (hb hby d5_4) rfl rfl ?_
    show Steps p.tables e below (T1.setTop (mkF m 5 #[.val (.ref ob), .unset, .unset] [(.ref ob)])) _
    refine XS.iconst X1.here hx rfl (hb hby d5_5) ?_
    show Steps p.tables e below (T1.setTop (mkF m 6 #[.val (.ref ob), .unset, .unset] [(.int (0 : Int32)), (.ref ob)])) _
    refine st2 _ ?_
    show Steps p.tables e below (T2.setTop (mkF m 9 #[.val (.ref ob), .unset, .unset] [])) _
    refine XS.aloadN X2.here hx rfl (hb hby d5_9) rfl rfl ?_
    show Steps p.tables e below (T2.setTop (mkF m 10 #[.val (.ref ob), .unset, .unset] [(.ref ob)])) _
    refine XS.aloadN X2.here hx rfl (hb hby d5_10) rfl rfl ?_
    show Steps p.tables e below (T2.setTop (mkF m 11 #[.val (.ref ob), .unset, .unset] [(.ref ob), (.ref ob)])) _
    refine st5 _ ?_
    show Steps p.tables e below (T5.setTop (mkF m 14 #[.val (.ref ob), .unset, .unset] [.null, (.ref ob)])) _
    refine XS.ifnonnullNo X5.here hx rfl (hb hby d5_14) rfl ?_
    show Steps p.tables e below (T5.setTop (mkF m 17 #[.val (.ref ob), .unset, .unset] [(.ref ob)])) _
    refine X5.ldcInt hx hown (mvT hZ (hw _ (List.mem_of_getElem? (i := 52) rfl))) (g := (mkF m 17 #[.val (.ref ob), .unset, .unset] [(.ref ob)])) rfl (hb hby d5_17) _ ?_
    show Steps p.tables e below (T5.setTop (mkF m 19 #[.val (.ref ob), .unset, .unset] [(.int (4194306 : Int32)), (.ref ob)])) _
    refine XS.goto X5.here hx rfl (pc0 := 19) (pc' := 24) rfl (hb hby d5_19) (by decide) (by decide) ?_
    show Steps p.tables e below (T5.setTop (mkF m 24 #[.val (.ref ob), .unset, .unset] [(.int (4194306 : Int32)), (.ref ob)])) _
    refine st8 _ ?_
    show Steps p.tables e below (T8.setTop (mkF m 27 #[.val (.ref ob), .unset, .unset] [])) _
    refine XS.aloadN X8.here hx rfl (hb hby d5_27) rfl rfl ?_
    show Steps p.tables e below (T8.setTop (mkF m 28 #[.val (.ref ob), .unset, .unset] [(.ref ob)])) _
    refine st11 _ ?_
    show Steps p.tables e below (T11.setTop (mkF m 31 #[.val (.ref ob), .unset, .unset] [(.int s)])) _
    refine XS.istoreN X11.here hx rfl (hb hby d5_31) rfl (l' := #[.val (.ref ob), .val (.int s), .unset]) rfl ?_
    exact k
  have hi0 : s.toInt = s.toInt + 0 ∧ s.toInt ≤ z.toInt := ⟨(Int.add_zero _).symm, Int.le_of_lt hB.2.1⟩
  have ha0 : own_after vs dv z s = own_after vs dv z s := rfl
  obtain ⟨T13, jj, Lx13, X13, e13, N13, hj, pre13⟩ : ∃ (T13 : State) (jj : Int32) (Lx13 : List Loc), Stand p l e ({ frames := 4, cells := 2, slots := 8, locals := 62 } : Room) s0 m #[(.ref ob)] below meth c T13 Lx13 0 0 ∧ T13.heap = h8 ∧ Fr n0 Lx13 ∧ ((jj < z ∧ own_after vs dv z s = jj + (1 : Int32) ∧ s.toInt ≤ jj.toInt) ∨ (z = jj ∧ own_after vs dv z s = z)) ∧ (∀ t, Steps p.tables e below (T13.setTop (mkF m 57 #[.val (.ref ob), .val (.int jj), .unset] [])) t → Steps p.tables e below (s₁.setTop (entryFrame m #[(.ref ob)] 3)) t) := by
    have c14 : Fld Z h8 ob "quorumkeep/store/Messages$Reader" "end" "I" (.int z) := ((F_end.other W2 (Or.inr (slot_ne (a0 := a0) (Or.inl (hw _ (List.mem_of_getElem? (i := 28) rfl))) (Or.inl (hw _ (List.mem_of_getElem? (i := 51) rfl))) (by decide) (t := .int) (t' := .int) (by decide) (by decide)))).other W8 (Or.inr (slot_ne (a0 := a0) (Or.inl (hw _ (List.mem_of_getElem? (i := 28) rfl))) (Or.inl (hw _ (List.mem_of_getElem? (i := 54) rfl))) (by decide) (t := .int) (t' := .int) (by decide) (by decide))))
    obtain ⟨T15, X15, e15, st15⟩ := getF X11 hx hZ hown (host := "") (Or.inl (hw _ (List.mem_of_getElem? (i := 27) rfl))) Via.refl e11 c14 (g := (mkF m 34 #[.val (.ref ob), .val (.int s), .unset] [(.ref ob), (.int s)])) rfl rfl (hb hby d5_34)
    have pre16 : ∀ t, Steps p.tables e below (T15.setTop (mkF m 37 #[.val (.ref ob), .val (.int s), .unset] [(.int z), (.int s)])) t → Steps p.tables e below (s₁.setTop (entryFrame m #[(.ref ob)] 3)) t := fun t k => by
      refine pre12 t ?_
      show Steps p.tables e below (T11.setTop (mkF m 32 #[.val (.ref ob), .val (.int s), .unset] [])) _
      refine XS.iloadN X11.here hx rfl (hb hby d5_32) rfl ?_
      show Steps p.tables e below (T11.setTop (mkF m 33 #[.val (.ref ob), .val (.int s), .unset] [(.int s)])) _
      refine XS.aloadN X11.here hx rfl (hb hby d5_33) rfl rfl ?_
      show Steps p.tables e below (T11.setTop (mkF m 34 #[.val (.ref ob), .val (.int s), .unset] [(.ref ob), (.int s)])) _
      refine st15 _ ?_
      exact k
    by_cases hc37_17 : s < z
    · have c18 : Fld Z h8 ob "quorumkeep/store/Messages$Reader" "buffer" "[B" (.ref ar) := ((F_buffer.other W2 (Or.inr (slot_ne (a0 := a0) (Or.inr (hw _ (List.mem_of_getElem? (i := 26) rfl))) (Or.inl (hw _ (List.mem_of_getElem? (i := 51) rfl))) (by decide) (t := (.array .byte)) (t' := .int) (by decide) (by decide)))).other W8 (Or.inr (slot_ne (a0 := a0) (Or.inr (hw _ (List.mem_of_getElem? (i := 26) rfl))) (Or.inl (hw _ (List.mem_of_getElem? (i := 54) rfl))) (by decide) (t := (.array .byte)) (t' := .int) (by decide) (by decide))))
      obtain ⟨T19, X19, e19, st19⟩ := getF X15 hx hZ hown (host := "") (Or.inl (hw _ (List.mem_of_getElem? (i := 25) rfl))) Via.refl e15 c18 (g := (mkF m 41 #[.val (.ref ob), .val (.int s), .unset] [(.ref ob)])) rfl rfl (hb hby d5_41)
      have c20 : Arv Z h8 ar kk .byte z vs dv := ((V_ar.other W2 (Ne.symm ne_oar)).other W8 (Ne.symm ne_oar))
      obtain ⟨cl21, Ar21, -, Sz21, Nz21, Hs21, Gs21⟩ := id c20
      have hin21 : ¬ (s < 0 ∨ cl21.slots.size ≤ (s).toNatClampNeg) := inb_of Sz21 ⟨own_nn hB hi0, hc37_17⟩
      have hat21 : cl21.slots[(s).toNatClampNeg]? = some (.int (own_b vs dv s)) := Hs21.at hin21 (own_bat Gs21 hin21)
      have pre22 : ∀ t, Steps p.tables e below (T19.setTop (mkF m 48 #[.val (.ref ob), .val (.int s), .unset] [(.int (10 : Int32)), (.int (own_b vs dv s))])) t → Steps p.tables e below (s₁.setTop (entryFrame m #[(.ref ob)] 3)) t := fun t k => by
        refine pre16 t ?_
        show Steps p.tables e below (T15.setTop (mkF m 37 #[.val (.ref ob), .val (.int s), .unset] [(.int z), (.int s)])) _
        refine XS.icmpNo X15.here hx rfl (hb hby d5_37) rfl (tlt hc37_17).2.1 ?_
        show Steps p.tables e below (T15.setTop (mkF m 40 #[.val (.ref ob), .val (.int s), .unset] [])) _
        refine XS.aloadN X15.here hx rfl (hb hby d5_40) rfl rfl ?_
        show Steps p.tables e below (T15.setTop (mkF m 41 #[.val (.ref ob), .val (.int s), .unset] [(.ref ob)])) _
        refine st19 _ ?_
        show Steps p.tables e below (T19.setTop (mkF m 44 #[.val (.ref ob), .val (.int s), .unset] [(.ref ar)])) _
        refine XS.iloadN X19.here hx rfl (hb hby d5_44) rfl ?_
        show Steps p.tables e below (T19.setTop (mkF m 45 #[.val (.ref ob), .val (.int s), .unset] [(.int s), (.ref ar)])) _
        refine X19.baloadBytes hx (j := s) (v := (.int (own_b vs dv s))) (by rw [e19]; exact Ar21.1) (State.isArrayOf_alike hZ.alike Ar21.2.1) Ar21.2.2 hin21 hat21 (g := (mkF m 45 #[.val (.ref ob), .val (.int s), .unset] [(.int s), (.ref ar)])) rfl rfl (hb hby d5_45) _ ?_
        show Steps p.tables e below (T19.setTop (mkF m 46 #[.val (.ref ob), .val (.int s), .unset] [(.int (own_b vs dv s))])) _
        refine XS.bipush X19.here hx rfl (hb hby d5_46) ?_
        exact k
      by_cases hc48_23 : (own_b vs dv s) = (10 : Int32)
      · have pre24 : ∀ t, Steps p.tables e below (T19.setTop (mkF m 57 #[.val (.ref ob), .val (.int s), .unset] [])) t → Steps p.tables e below (s₁.setTop (entryFrame m #[(.ref ob)] 3)) t := fun t k => by
          refine pre22 t ?_
          show Steps p.tables e below (T19.setTop (mkF m 48 #[.val (.ref ob), .val (.int s), .unset] [(.int (10 : Int32)), (.int (own_b vs dv s))])) _
          refine XS.icmpYes X19.here hx rfl (pc0 := 48) (pc' := 57) rfl (hb hby d5_48) rfl (teq hc48_23).1 (by decide) (by decide) ?_
          exact k
        exact ⟨T19, s, _, X19, e19, N8, Or.inl ⟨hc37_17, ha0.symm.trans (own_a2 hB hi0 hc37_17 hc48_23), own_ge hi0⟩, pre24⟩
      · have hi1 : (s + (1 : Int32)).toInt = s.toInt + 1 ∧ (s + (1 : Int32)).toInt ≤ z.toInt := own_up hB hi0 hc37_17
        have ha1 : own_after vs dv z (s + (1 : Int32)) = own_after vs dv z s := (own_a1 hB hi0 hc37_17 hc48_23).trans ha0
        obtain ⟨T25, X25, e25, st25⟩ := getF X19 hx hZ hown (host := "") (Or.inl (hw _ (List.mem_of_getElem? (i := 27) rfl))) Via.refl e19 c14 (g := (mkF m 34 #[.val (.ref ob), .val (.int (s + (1 : Int32))), .unset] [(.ref ob), (.int (s + (1 : Int32)))])) rfl rfl (hb hby d5_34)
        have pre26 : ∀ t, Steps p.tables e below (T25.setTop (mkF m 37 #[.val (.ref ob), .val (.int (s + (1 : Int32))), .unset] [(.int z), (.int (s + (1 : Int32)))])) t → Steps p.tables e below (s₁.setTop (entryFrame m #[(.ref ob)] 3)) t := fun t k => by
          refine pre22 t ?_
          show Steps p.tables e below (T19.setTop (mkF m 48 #[.val (.ref ob), .val (.int s), .unset] [(.int (10 : Int32)), (.int (own_b vs dv s))])) _
          refine XS.icmpNo X19.here hx rfl (hb hby d5_48) rfl (feq hc48_23).1 ?_
          show Steps p.tables e below (T19.setTop (mkF m 51 #[.val (.ref ob), .val (.int s), .unset] [])) _
          refine XS.iinc X19.here hx rfl (hb hby d5_51) rfl (l' := #[.val (.ref ob), .val (.int (s + (1 : Int32))), .unset]) rfl ?_
          show Steps p.tables e below (T19.setTop (mkF m 54 #[.val (.ref ob), .val (.int (s + (1 : Int32))), .unset] [])) _
          refine XS.goto X19.here hx rfl (pc0 := 54) (pc' := 32) rfl (hb hby d5_54) (by decide) (by decide) ?_
          show Steps p.tables e below (T19.setTop (mkF m 32 #[.val (.ref ob), .val (.int (s + (1 : Int32))), .unset] [])) _
          refine XS.iloadN X19.here hx rfl (hb hby d5_32) rfl ?_
          show Steps p.tables e below (T19.setTop (mkF m 33 #[.val (.ref ob), .val (.int (s + (1 : Int32))), .unset] [(.int (s + (1 : Int32)))])) _
          refine XS.aloadN X19.here hx rfl (hb hby d5_33) rfl rfl ?_
          show Steps p.tables e below (T19.setTop (mkF m 34 #[.val (.ref ob), .val (.int (s + (1 : Int32))), .unset] [(.ref ob), (.int (s + (1 : Int32)))])) _
          refine st25 _ ?_
          exact k
        by_cases hc37_27 : (s + (1 : Int32)) < z
        · obtain ⟨T28, X28, e28, st28⟩ := getF X25 hx hZ hown (host := "") (Or.inl (hw _ (List.mem_of_getElem? (i := 25) rfl))) Via.refl e25 c18 (g := (mkF m 41 #[.val (.ref ob), .val (.int (s + (1 : Int32))), .unset] [(.ref ob)])) rfl rfl (hb hby d5_41)
          obtain ⟨cl29, Ar29, -, Sz29, Nz29, Hs29, Gs29⟩ := id c20
          have hin29 : ¬ ((s + (1 : Int32)) < 0 ∨ cl29.slots.size ≤ ((s + (1 : Int32))).toNatClampNeg) := inb_of Sz29 ⟨own_nn hB hi1, hc37_27⟩
          have hat29 : cl29.slots[((s + (1 : Int32))).toNatClampNeg]? = some (.int (own_b vs dv (s + (1 : Int32)))) := Hs29.at hin29 (own_bat Gs29 hin29)
          have pre30 : ∀ t, Steps p.tables e below (T28.setTop (mkF m 48 #[.val (.ref ob), .val (.int (s + (1 : Int32))), .unset] [(.int (10 : Int32)), (.int (own_b vs dv (s + (1 : Int32))))])) t → Steps p.tables e below (s₁.setTop (entryFrame m #[(.ref ob)] 3)) t := fun t k => by
            refine pre26 t ?_
            show Steps p.tables e below (T25.setTop (mkF m 37 #[.val (.ref ob), .val (.int (s + (1 : Int32))), .unset] [(.int z), (.int (s + (1 : Int32)))])) _
            refine XS.icmpNo X25.here hx rfl (hb hby d5_37) rfl (tlt hc37_27).2.1 ?_
            show Steps p.tables e below (T25.setTop (mkF m 40 #[.val (.ref ob), .val (.int (s + (1 : Int32))), .unset] [])) _
            refine XS.aloadN X25.here hx rfl (hb hby d5_40) rfl rfl ?_
            show Steps p.tables e below (T25.setTop (mkF m 41 #[.val (.ref ob), .val (.int (s + (1 : Int32))), .unset] [(.ref ob)])) _
            refine st28 _ ?_
            show Steps p.tables e below (T28.setTop (mkF m 44 #[.val (.ref ob), .val (.int (s + (1 : Int32))), .unset] [(.ref ar)])) _
            refine XS.iloadN X28.here hx rfl (hb hby d5_44) rfl ?_
            show Steps p.tables e below (T28.setTop (mkF m 45 #[.val (.ref ob), .val (.int (s + (1 : Int32))), .unset] [(.int (s + (1 : Int32))), (.ref ar)])) _
            refine X28.baloadBytes hx (j := (s + (1 : Int32))) (v := (.int (own_b vs dv (s + (1 : Int32))))) (by rw [e28]; exact Ar29.1) (State.isArrayOf_alike hZ.alike Ar29.2.1) Ar29.2.2 hin29 hat29 (g := (mkF m 45 #[.val (.ref ob), .val (.int (s + (1 : Int32))), .unset] [(.int (s + (1 : Int32))), (.ref ar)])) rfl rfl (hb hby d5_45) _ ?_
            show Steps p.tables e below (T28.setTop (mkF m 46 #[.val (.ref ob), .val (.int (s + (1 : Int32))), .unset] [(.int (own_b vs dv (s + (1 : Int32))))])) _
            refine XS.bipush X28.here hx rfl (hb hby d5_46) ?_
            exact k
          by_cases hc48_31 : (own_b vs dv (s + (1 : Int32))) = (10 : Int32)
          · have pre32 : ∀ t, Steps p.tables e below (T28.setTop (mkF m 57 #[.val (.ref ob), .val (.int (s + (1 : Int32))), .unset] [])) t → Steps p.tables e below (s₁.setTop (entryFrame m #[(.ref ob)] 3)) t := fun t k => by
              refine pre30 t ?_
              show Steps p.tables e below (T28.setTop (mkF m 48 #[.val (.ref ob), .val (.int (s + (1 : Int32))), .unset] [(.int (10 : Int32)), (.int (own_b vs dv (s + (1 : Int32))))])) _
              refine XS.icmpYes X28.here hx rfl (pc0 := 48) (pc' := 57) rfl (hb hby d5_48) rfl (teq hc48_31).1 (by decide) (by decide) ?_
              exact k
            exact ⟨T28, (s + (1 : Int32)), _, X28, e28, N8, Or.inl ⟨hc37_27, ha1.symm.trans (own_a2 hB hi1 hc37_27 hc48_31), own_ge hi1⟩, pre32⟩
          · have hi2 : ((s + (1 : Int32)) + (1 : Int32)).toInt = s.toInt + 2 ∧ ((s + (1 : Int32)) + (1 : Int32)).toInt ≤ z.toInt := own_up hB hi1 hc37_27
            have ha2 : own_after vs dv z ((s + (1 : Int32)) + (1 : Int32)) = own_after vs dv z s := (own_a1 hB hi1 hc37_27 hc48_31).trans ha1
            obtain ⟨T33, X33, e33, st33⟩ := getF X28 hx hZ hown (host := "") (Or.inl (hw _ (List.mem_of_getElem? (i := 27) rfl))) Via.refl e28 c14 (g := (mkF m 34 #[.val (.ref ob), .val (.int ((s + (1 : Int32)) + (1 : Int32))), .unset] [(.ref ob), (.int ((s + (1 : Int32)) + (1 : Int32)))])) rfl rfl (hb hby d5_34)
            have pre34 : ∀ t, Steps p.tables e below (T33.setTop (mkF m 37 #[.val (.ref ob), .val (.int ((s + (1 : Int32)) + (1 : Int32))), .unset] [(.int z), (.int ((s + (1 : Int32)) + (1 : Int32)))])) t → Steps p.tables e below (s₁.setTop (entryFrame m #[(.ref ob)] 3)) t := fun t k => by
              refine pre30 t ?_
              show Steps p.tables e below (T28.setTop (mkF m 48 #[.val (.ref ob), .val (.int (s + (1 : Int32))), .unset] [(.int (10 : Int32)), (.int (own_b vs dv (s + (1 : Int32))))])) _
              refine XS.icmpNo X28.here hx rfl (hb hby d5_48) rfl (feq hc48_31).1 ?_
              show Steps p.tables e below (T28.setTop (mkF m 51 #[.val (.ref ob), .val (.int (s + (1 : Int32))), .unset] [])) _
              refine XS.iinc X28.here hx rfl (hb hby d5_51) rfl (l' := #[.val (.ref ob), .val (.int ((s + (1 : Int32)) + (1 : Int32))), .unset]) rfl ?_
              show Steps p.tables e below (T28.setTop (mkF m 54 #[.val (.ref ob), .val (.int ((s + (1 : Int32)) + (1 : Int32))), .unset] [])) _
              refine XS.goto X28.here hx rfl (pc0 := 54) (pc' := 32) rfl (hb hby d5_54) (by decide) (by decide) ?_
              show Steps p.tables e below (T28.setTop (mkF m 32 #[.val (.ref ob), .val (.int ((s + (1 : Int32)) + (1 : Int32))), .unset] [])) _
              refine XS.iloadN X28.here hx rfl (hb hby d5_32) rfl ?_
              show Steps p.tables e below (T28.setTop (mkF m 33 #[.val (.ref ob), .val (.int ((s + (1 : Int32)) + (1 : Int32))), .unset] [(.int ((s + (1 : Int32)) + (1 : Int32)))])) _
              refine XS.aloadN X28.here hx rfl (hb hby d5_33) rfl rfl ?_
              show Steps p.tables e below (T28.setTop (mkF m 34 #[.val (.ref ob), .val (.int ((s + (1 : Int32)) + (1 : Int32))), .unset] [(.ref ob), (.int ((s + (1 : Int32)) + (1 : Int32)))])) _
              refine st33 _ ?_
              exact k
            by_cases hc37_35 : ((s + (1 : Int32)) + (1 : Int32)) < z
            · obtain ⟨T36, X36, e36, st36⟩ := getF X33 hx hZ hown (host := "") (Or.inl (hw _ (List.mem_of_getElem? (i := 25) rfl))) Via.refl e33 c18 (g := (mkF m 41 #[.val (.ref ob), .val (.int ((s + (1 : Int32)) + (1 : Int32))), .unset] [(.ref ob)])) rfl rfl (hb hby d5_41)
              obtain ⟨cl37, Ar37, -, Sz37, Nz37, Hs37, Gs37⟩ := id c20
              have hin37 : ¬ (((s + (1 : Int32)) + (1 : Int32)) < 0 ∨ cl37.slots.size ≤ (((s + (1 : Int32)) + (1 : Int32))).toNatClampNeg) := inb_of Sz37 ⟨own_nn hB hi2, hc37_35⟩
              have hat37 : cl37.slots[(((s + (1 : Int32)) + (1 : Int32))).toNatClampNeg]? = some (.int (own_b vs dv ((s + (1 : Int32)) + (1 : Int32)))) := Hs37.at hin37 (own_bat Gs37 hin37)
              have pre38 : ∀ t, Steps p.tables e below (T36.setTop (mkF m 48 #[.val (.ref ob), .val (.int ((s + (1 : Int32)) + (1 : Int32))), .unset] [(.int (10 : Int32)), (.int (own_b vs dv ((s + (1 : Int32)) + (1 : Int32))))])) t → Steps p.tables e below (s₁.setTop (entryFrame m #[(.ref ob)] 3)) t := fun t k => by
                refine pre34 t ?_
                show Steps p.tables e below (T33.setTop (mkF m 37 #[.val (.ref ob), .val (.int ((s + (1 : Int32)) + (1 : Int32))), .unset] [(.int z), (.int ((s + (1 : Int32)) + (1 : Int32)))])) _
                refine XS.icmpNo X33.here hx rfl (hb hby d5_37) rfl (tlt hc37_35).2.1 ?_
                show Steps p.tables e below (T33.setTop (mkF m 40 #[.val (.ref ob), .val (.int ((s + (1 : Int32)) + (1 : Int32))), .unset] [])) _
                refine XS.aloadN X33.here hx rfl (hb hby d5_40) rfl rfl ?_
                show Steps p.tables e below (T33.setTop (mkF m 41 #[.val (.ref ob), .val (.int ((s + (1 : Int32)) + (1 : Int32))), .unset] [(.ref ob)])) _
                refine st36 _ ?_
                show Steps p.tables e below (T36.setTop (mkF m 44 #[.val (.ref ob), .val (.int ((s + (1 : Int32)) + (1 : Int32))), .unset] [(.ref ar)])) _
                refine XS.iloadN X36.here hx rfl (hb hby d5_44) rfl ?_
                show Steps p.tables e below (T36.setTop (mkF m 45 #[.val (.ref ob), .val (.int ((s + (1 : Int32)) + (1 : Int32))), .unset] [(.int ((s + (1 : Int32)) + (1 : Int32))), (.ref ar)])) _
                refine X36.baloadBytes hx (j := ((s + (1 : Int32)) + (1 : Int32))) (v := (.int (own_b vs dv ((s + (1 : Int32)) + (1 : Int32))))) (by rw [e36]; exact Ar37.1) (State.isArrayOf_alike hZ.alike Ar37.2.1) Ar37.2.2 hin37 hat37 (g := (mkF m 45 #[.val (.ref ob), .val (.int ((s + (1 : Int32)) + (1 : Int32))), .unset] [(.int ((s + (1 : Int32)) + (1 : Int32))), (.ref ar)])) rfl rfl (hb hby d5_45) _ ?_
                show Steps p.tables e below (T36.setTop (mkF m 46 #[.val (.ref ob), .val (.int ((s + (1 : Int32)) + (1 : Int32))), .unset] [(.int (own_b vs dv ((s + (1 : Int32)) + (1 : Int32))))])) _
                refine XS.bipush X36.here hx rfl (hb hby d5_46) ?_
                exact k
              by_cases hc48_39 : (own_b vs dv ((s + (1 : Int32)) + (1 : Int32))) = (10 : Int32)
              · have pre40 : ∀ t, Steps p.tables e below (T36.setTop (mkF m 57 #[.val (.ref ob), .val (.int ((s + (1 : Int32)) + (1 : Int32))), .unset] [])) t → Steps p.tables e below (s₁.setTop (entryFrame m #[(.ref ob)] 3)) t := fun t k => by
                  refine pre38 t ?_
                  show Steps p.tables e below (T36.setTop (mkF m 48 #[.val (.ref ob), .val (.int ((s + (1 : Int32)) + (1 : Int32))), .unset] [(.int (10 : Int32)), (.int (own_b vs dv ((s + (1 : Int32)) + (1 : Int32))))])) _
                  refine XS.icmpYes X36.here hx rfl (pc0 := 48) (pc' := 57) rfl (hb hby d5_48) rfl (teq hc48_39).1 (by decide) (by decide) ?_
                  exact k
                exact ⟨T36, ((s + (1 : Int32)) + (1 : Int32)), _, X36, e36, N8, Or.inl ⟨hc37_35, ha2.symm.trans (own_a2 hB hi2 hc37_35 hc48_39), own_ge hi2⟩, pre40⟩
              · have hi3 : (((s + (1 : Int32)) + (1 : Int32)) + (1 : Int32)).toInt = s.toInt + 3 ∧ (((s + (1 : Int32)) + (1 : Int32)) + (1 : Int32)).toInt ≤ z.toInt := own_up hB hi2 hc37_35
                have ha3 : own_after vs dv z (((s + (1 : Int32)) + (1 : Int32)) + (1 : Int32)) = own_after vs dv z s := (own_a1 hB hi2 hc37_35 hc48_39).trans ha2
                obtain ⟨T41, X41, e41, st41⟩ := getF X36 hx hZ hown (host := "") (Or.inl (hw _ (List.mem_of_getElem? (i := 27) rfl))) Via.refl e36 c14 (g := (mkF m 34 #[.val (.ref ob), .val (.int (((s + (1 : Int32)) + (1 : Int32)) + (1 : Int32))), .unset] [(.ref ob), (.int (((s + (1 : Int32)) + (1 : Int32)) + (1 : Int32)))])) rfl rfl (hb hby d5_34)
                have pre42 : ∀ t, Steps p.tables e below (T41.setTop (mkF m 37 #[.val (.ref ob), .val (.int (((s + (1 : Int32)) + (1 : Int32)) + (1 : Int32))), .unset] [(.int z), (.int (((s + (1 : Int32)) + (1 : Int32)) + (1 : Int32)))])) t → Steps p.tables e below (s₁.setTop (entryFrame m #[(.ref ob)] 3)) t := fun t k => by
                  refine pre38 t ?_
                  show Steps p.tables e below (T36.setTop (mkF m 48 #[.val (.ref ob), .val (.int ((s + (1 : Int32)) + (1 : Int32))), .unset] [(.int (10 : Int32)), (.int (own_b vs dv ((s + (1 : Int32)) + (1 : Int32))))])) _
                  refine XS.icmpNo X36.here hx rfl (hb hby d5_48) rfl (feq hc48_39).1 ?_
                  show Steps p.tables e below (T36.setTop (mkF m 51 #[.val (.ref ob), .val (.int ((s + (1 : Int32)) + (1 : Int32))), .unset] [])) _
                  refine XS.iinc X36.here hx rfl (hb hby d5_51) rfl (l' := #[.val (.ref ob), .val (.int (((s + (1 : Int32)) + (1 : Int32)) + (1 : Int32))), .unset]) rfl ?_
                  show Steps p.tables e below (T36.setTop (mkF m 54 #[.val (.ref ob), .val (.int (((s + (1 : Int32)) + (1 : Int32)) + (1 : Int32))), .unset] [])) _
                  refine XS.goto X36.here hx rfl (pc0 := 54) (pc' := 32) rfl (hb hby d5_54) (by decide) (by decide) ?_
                  show Steps p.tables e below (T36.setTop (mkF m 32 #[.val (.ref ob), .val (.int (((s + (1 : Int32)) + (1 : Int32)) + (1 : Int32))), .unset] [])) _
                  refine XS.iloadN X36.here hx rfl (hb hby d5_32) rfl ?_
                  show Steps p.tables e below (T36.setTop (mkF m 33 #[.val (.ref ob), .val (.int (((s + (1 : Int32)) + (1 : Int32)) + (1 : Int32))), .unset] [(.int (((s + (1 : Int32)) + (1 : Int32)) + (1 : Int32)))])) _
                  refine XS.aloadN X36.here hx rfl (hb hby d5_33) rfl rfl ?_
                  show Steps p.tables e below (T36.setTop (mkF m 34 #[.val (.ref ob), .val (.int (((s + (1 : Int32)) + (1 : Int32)) + (1 : Int32))), .unset] [(.ref ob), (.int (((s + (1 : Int32)) + (1 : Int32)) + (1 : Int32)))])) _
                  refine st41 _ ?_
                  exact k
                by_cases hc37_43 : (((s + (1 : Int32)) + (1 : Int32)) + (1 : Int32)) < z
                · obtain ⟨T44, X44, e44, st44⟩ := getF X41 hx hZ hown (host := "") (Or.inl (hw _ (List.mem_of_getElem? (i := 25) rfl))) Via.refl e41 c18 (g := (mkF m 41 #[.val (.ref ob), .val (.int (((s + (1 : Int32)) + (1 : Int32)) + (1 : Int32))), .unset] [(.ref ob)])) rfl rfl (hb hby d5_41)
                  obtain ⟨cl45, Ar45, -, Sz45, Nz45, Hs45, Gs45⟩ := id c20
                  have hin45 : ¬ ((((s + (1 : Int32)) + (1 : Int32)) + (1 : Int32)) < 0 ∨ cl45.slots.size ≤ ((((s + (1 : Int32)) + (1 : Int32)) + (1 : Int32))).toNatClampNeg) := inb_of Sz45 ⟨own_nn hB hi3, hc37_43⟩
                  have hat45 : cl45.slots[((((s + (1 : Int32)) + (1 : Int32)) + (1 : Int32))).toNatClampNeg]? = some (.int (own_b vs dv (((s + (1 : Int32)) + (1 : Int32)) + (1 : Int32)))) := Hs45.at hin45 (own_bat Gs45 hin45)
                  have pre46 : ∀ t, Steps p.tables e below (T44.setTop (mkF m 48 #[.val (.ref ob), .val (.int (((s + (1 : Int32)) + (1 : Int32)) + (1 : Int32))), .unset] [(.int (10 : Int32)), (.int (own_b vs dv (((s + (1 : Int32)) + (1 : Int32)) + (1 : Int32))))])) t → Steps p.tables e below (s₁.setTop (entryFrame m #[(.ref ob)] 3)) t := fun t k => by
                    refine pre42 t ?_
                    show Steps p.tables e below (T41.setTop (mkF m 37 #[.val (.ref ob), .val (.int (((s + (1 : Int32)) + (1 : Int32)) + (1 : Int32))), .unset] [(.int z), (.int (((s + (1 : Int32)) + (1 : Int32)) + (1 : Int32)))])) _
                    refine XS.icmpNo X41.here hx rfl (hb hby d5_37) rfl (tlt hc37_43).2.1 ?_
                    show Steps p.tables e below (T41.setTop (mkF m 40 #[.val (.ref ob), .val (.int (((s + (1 : Int32)) + (1 : Int32)) + (1 : Int32))), .unset] [])) _
                    refine XS.aloadN X41.here hx rfl (hb hby d5_40) rfl rfl ?_
                    show Steps p.tables e below (T41.setTop (mkF m 41 #[.val (.ref ob), .val (.int (((s + (1 : Int32)) + (1 : Int32)) + (1 : Int32))), .unset] [(.ref ob)])) _
                    refine st44 _ ?_
                    show Steps p.tables e below (T44.setTop (mkF m 44 #[.val (.ref ob), .val (.int (((s + (1 : Int32)) + (1 : Int32)) + (1 : Int32))), .unset] [(.ref ar)])) _
                    refine XS.iloadN X44.here hx rfl (hb hby d5_44) rfl ?_
                    show Steps p.tables e below (T44.setTop (mkF m 45 #[.val (.ref ob), .val (.int (((s + (1 : Int32)) + (1 : Int32)) + (1 : Int32))), .unset] [(.int (((s + (1 : Int32)) + (1 : Int32)) + (1 : Int32))), (.ref ar)])) _
                    refine X44.baloadBytes hx (j := (((s + (1 : Int32)) + (1 : Int32)) + (1 : Int32))) (v := (.int (own_b vs dv (((s + (1 : Int32)) + (1 : Int32)) + (1 : Int32))))) (by rw [e44]; exact Ar45.1) (State.isArrayOf_alike hZ.alike Ar45.2.1) Ar45.2.2 hin45 hat45 (g := (mkF m 45 #[.val (.ref ob), .val (.int (((s + (1 : Int32)) + (1 : Int32)) + (1 : Int32))), .unset] [(.int (((s + (1 : Int32)) + (1 : Int32)) + (1 : Int32))), (.ref ar)])) rfl rfl (hb hby d5_45) _ ?_
                    show Steps p.tables e below (T44.setTop (mkF m 46 #[.val (.ref ob), .val (.int (((s + (1 : Int32)) + (1 : Int32)) + (1 : Int32))), .unset] [(.int (own_b vs dv (((s + (1 : Int32)) + (1 : Int32)) + (1 : Int32))))])) _
                    refine XS.bipush X44.here hx rfl (hb hby d5_46) ?_
                    exact k
                  by_cases hc48_47 : (own_b vs dv (((s + (1 : Int32)) + (1 : Int32)) + (1 : Int32))) = (10 : Int32)
                  · have pre48 : ∀ t, Steps p.tables e below (T44.setTop (mkF m 57 #[.val (.ref ob), .val (.int (((s + (1 : Int32)) + (1 : Int32)) + (1 : Int32))), .unset] [])) t → Steps p.tables e below (s₁.setTop (entryFrame m #[(.ref ob)] 3)) t := fun t k => by
                      refine pre46 t ?_
                      show Steps p.tables e below (T44.setTop (mkF m 48 #[.val (.ref ob), .val (.int (((s + (1 : Int32)) + (1 : Int32)) + (1 : Int32))), .unset] [(.int (10 : Int32)), (.int (own_b vs dv (((s + (1 : Int32)) + (1 : Int32)) + (1 : Int32))))])) _
                      refine XS.icmpYes X44.here hx rfl (pc0 := 48) (pc' := 57) rfl (hb hby d5_48) rfl (teq hc48_47).1 (by decide) (by decide) ?_
                      exact k
                    exact ⟨T44, (((s + (1 : Int32)) + (1 : Int32)) + (1 : Int32)), _, X44, e44, N8, Or.inl ⟨hc37_43, ha3.symm.trans (own_a2 hB hi3 hc37_43 hc48_47), own_ge hi3⟩, pre48⟩
                  · have hi4 : ((((s + (1 : Int32)) + (1 : Int32)) + (1 : Int32)) + (1 : Int32)).toInt = s.toInt + 4 ∧ ((((s + (1 : Int32)) + (1 : Int32)) + (1 : Int32)) + (1 : Int32)).toInt ≤ z.toInt := own_up hB hi3 hc37_43
                    have ha4 : own_after vs dv z ((((s + (1 : Int32)) + (1 : Int32)) + (1 : Int32)) + (1 : Int32)) = own_after vs dv z s := (own_a1 hB hi3 hc37_43 hc48_47).trans ha3
                    obtain ⟨T49, X49, e49, st49⟩ := getF X44 hx hZ hown (host := "") (Or.inl (hw _ (List.mem_of_getElem? (i := 27) rfl))) Via.refl e44 c14 (g := (mkF m 34 #[.val (.ref ob), .val (.int ((((s + (1 : Int32)) + (1 : Int32)) + (1 : Int32)) + (1 : Int32))), .unset] [(.ref ob), (.int ((((s + (1 : Int32)) + (1 : Int32)) + (1 : Int32)) + (1 : Int32)))])) rfl rfl (hb hby d5_34)
                    have pre50 : ∀ t, Steps p.tables e below (T49.setTop (mkF m 57 #[.val (.ref ob), .val (.int ((((s + (1 : Int32)) + (1 : Int32)) + (1 : Int32)) + (1 : Int32))), .unset] [])) t → Steps p.tables e below (s₁.setTop (entryFrame m #[(.ref ob)] 3)) t := fun t k => by
                      refine pre46 t ?_
                      show Steps p.tables e below (T44.setTop (mkF m 48 #[.val (.ref ob), .val (.int (((s + (1 : Int32)) + (1 : Int32)) + (1 : Int32))), .unset] [(.int (10 : Int32)), (.int (own_b vs dv (((s + (1 : Int32)) + (1 : Int32)) + (1 : Int32))))])) _
                      refine XS.icmpNo X44.here hx rfl (hb hby d5_48) rfl (feq hc48_47).1 ?_
                      show Steps p.tables e below (T44.setTop (mkF m 51 #[.val (.ref ob), .val (.int (((s + (1 : Int32)) + (1 : Int32)) + (1 : Int32))), .unset] [])) _
                      refine XS.iinc X44.here hx rfl (hb hby d5_51) rfl (l' := #[.val (.ref ob), .val (.int ((((s + (1 : Int32)) + (1 : Int32)) + (1 : Int32)) + (1 : Int32))), .unset]) rfl ?_
                      show Steps p.tables e below (T44.setTop (mkF m 54 #[.val (.ref ob), .val (.int ((((s + (1 : Int32)) + (1 : Int32)) + (1 : Int32)) + (1 : Int32))), .unset] [])) _
                      refine XS.goto X44.here hx rfl (pc0 := 54) (pc' := 32) rfl (hb hby d5_54) (by decide) (by decide) ?_
                      show Steps p.tables e below (T44.setTop (mkF m 32 #[.val (.ref ob), .val (.int ((((s + (1 : Int32)) + (1 : Int32)) + (1 : Int32)) + (1 : Int32))), .unset] [])) _
                      refine XS.iloadN X44.here hx rfl (hb hby d5_32) rfl ?_
                      show Steps p.tables e below (T44.setTop (mkF m 33 #[.val (.ref ob), .val (.int ((((s + (1 : Int32)) + (1 : Int32)) + (1 : Int32)) + (1 : Int32))), .unset] [(.int ((((s + (1 : Int32)) + (1 : Int32)) + (1 : Int32)) + (1 : Int32)))])) _
                      refine XS.aloadN X44.here hx rfl (hb hby d5_33) rfl rfl ?_
                      show Steps p.tables e below (T44.setTop (mkF m 34 #[.val (.ref ob), .val (.int ((((s + (1 : Int32)) + (1 : Int32)) + (1 : Int32)) + (1 : Int32))), .unset] [(.ref ob), (.int ((((s + (1 : Int32)) + (1 : Int32)) + (1 : Int32)) + (1 : Int32)))])) _
                      refine st49 _ ?_
                      show Steps p.tables e below (T49.setTop (mkF m 37 #[.val (.ref ob), .val (.int ((((s + (1 : Int32)) + (1 : Int32)) + (1 : Int32)) + (1 : Int32))), .unset] [(.int z), (.int ((((s + (1 : Int32)) + (1 : Int32)) + (1 : Int32)) + (1 : Int32)))])) _
                      refine XS.icmpYes X49.here hx rfl (pc0 := 37) (pc' := 57) rfl (hb hby d5_37) rfl (flt (own_e4 hB hi4 : ¬ (((((s + (1 : Int32)) + (1 : Int32)) + (1 : Int32)) + (1 : Int32)) < z))).2.1 (by decide) (by decide) ?_
                      exact k
                    exact ⟨T49, ((((s + (1 : Int32)) + (1 : Int32)) + (1 : Int32)) + (1 : Int32)), _, X49, e49, N8, Or.inr ⟨own_ez hi4 (own_e4 hB hi4), ha4.symm.trans (own_a3j hB (own_ez hi4 (own_e4 hB hi4)))⟩, pre50⟩
                · have pre51 : ∀ t, Steps p.tables e below (T41.setTop (mkF m 57 #[.val (.ref ob), .val (.int (((s + (1 : Int32)) + (1 : Int32)) + (1 : Int32))), .unset] [])) t → Steps p.tables e below (s₁.setTop (entryFrame m #[(.ref ob)] 3)) t := fun t k => by
                    refine pre42 t ?_
                    show Steps p.tables e below (T41.setTop (mkF m 37 #[.val (.ref ob), .val (.int (((s + (1 : Int32)) + (1 : Int32)) + (1 : Int32))), .unset] [(.int z), (.int (((s + (1 : Int32)) + (1 : Int32)) + (1 : Int32)))])) _
                    refine XS.icmpYes X41.here hx rfl (pc0 := 37) (pc' := 57) rfl (hb hby d5_37) rfl (flt hc37_43).2.1 (by decide) (by decide) ?_
                    exact k
                  exact ⟨T41, (((s + (1 : Int32)) + (1 : Int32)) + (1 : Int32)), _, X41, e41, N8, Or.inr ⟨own_ez hi3 hc37_43, ha3.symm.trans (own_a3j hB (own_ez hi3 hc37_43))⟩, pre51⟩
            · have pre52 : ∀ t, Steps p.tables e below (T33.setTop (mkF m 57 #[.val (.ref ob), .val (.int ((s + (1 : Int32)) + (1 : Int32))), .unset] [])) t → Steps p.tables e below (s₁.setTop (entryFrame m #[(.ref ob)] 3)) t := fun t k => by
                refine pre34 t ?_
                show Steps p.tables e below (T33.setTop (mkF m 37 #[.val (.ref ob), .val (.int ((s + (1 : Int32)) + (1 : Int32))), .unset] [(.int z), (.int ((s + (1 : Int32)) + (1 : Int32)))])) _
                refine XS.icmpYes X33.here hx rfl (pc0 := 37) (pc' := 57) rfl (hb hby d5_37) rfl (flt hc37_35).2.1 (by decide) (by decide) ?_
                exact k
              exact ⟨T33, ((s + (1 : Int32)) + (1 : Int32)), _, X33, e33, N8, Or.inr ⟨own_ez hi2 hc37_35, ha2.symm.trans (own_a3j hB (own_ez hi2 hc37_35))⟩, pre52⟩
        · have pre53 : ∀ t, Steps p.tables e below (T25.setTop (mkF m 57 #[.val (.ref ob), .val (.int (s + (1 : Int32))), .unset] [])) t → Steps p.tables e below (s₁.setTop (entryFrame m #[(.ref ob)] 3)) t := fun t k => by
            refine pre26 t ?_
            show Steps p.tables e below (T25.setTop (mkF m 37 #[.val (.ref ob), .val (.int (s + (1 : Int32))), .unset] [(.int z), (.int (s + (1 : Int32)))])) _
            refine XS.icmpYes X25.here hx rfl (pc0 := 37) (pc' := 57) rfl (hb hby d5_37) rfl (flt hc37_27).2.1 (by decide) (by decide) ?_
            exact k
          exact ⟨T25, (s + (1 : Int32)), _, X25, e25, N8, Or.inr ⟨own_ez hi1 hc37_27, ha1.symm.trans (own_a3j hB (own_ez hi1 hc37_27))⟩, pre53⟩
    · have pre54 : ∀ t, Steps p.tables e below (T15.setTop (mkF m 57 #[.val (.ref ob), .val (.int s), .unset] [])) t → Steps p.tables e below (s₁.setTop (entryFrame m #[(.ref ob)] 3)) t := fun t k => by
        refine pre16 t ?_
        show Steps p.tables e below (T15.setTop (mkF m 37 #[.val (.ref ob), .val (.int s), .unset] [(.int z), (.int s)])) _
        refine XS.icmpYes X15.here hx rfl (pc0 := 37) (pc' := 57) rfl (hb hby d5_37) rfl (flt hc37_17).2.1 (by decide) (by decide) ?_
        exact k
      exact ⟨T15, s, _, X15, e15, N8, Or.inr ⟨own_ez hi0 hc37_17, ha0.symm.trans (own_a3j hB (own_ez hi0 hc37_17))⟩, pre54⟩
  rcases hj with ⟨hlt, hA, hge⟩ | ⟨hzj, hA⟩
  · have c55 : Fld Z h8 ob "quorumkeep/store/Messages$Reader" "end" "I" (.int z) := ((F_end.other W2 (Or.inr (slot_ne (a0 := a0) (Or.inl (hw _ (List.mem_of_getElem? (i := 28) rfl))) (Or.inl (hw _ (List.mem_of_getElem? (i := 51) rfl))) (by decide) (t := .int) (t' := .int) (by decide) (by decide)))).other W8 (Or.inr (slot_ne (a0 := a0) (Or.inl (hw _ (List.mem_of_getElem? (i := 28) rfl))) (Or.inl (hw _ (List.mem_of_getElem? (i := 54) rfl))) (by decide) (t := .int) (t' := .int) (by decide) (by decide))))
    obtain ⟨T56, X56, e56, st56⟩ := getF X13 hx hZ hown (host := "") (Or.inl (hw _ (List.mem_of_getElem? (i := 27) rfl))) Via.refl e13 c55 (g := (mkF m 59 #[.val (.ref ob), .val (.int jj), .unset] [(.ref ob), (.int jj)])) rfl rfl (hb hby d5_59)
    have c57 : Fld Z h8 ob "quorumkeep/store/Messages$Reader" "size" "I" (.int (0 : Int32)) := (Fw2.other W8 (Or.inr (slot_ne (a0 := a0) (Or.inl (hw _ (List.mem_of_getElem? (i := 51) rfl))) (Or.inl (hw _ (List.mem_of_getElem? (i := 54) rfl))) (by decide) (t := .int) (t' := .int) (by decide) (by decide))))
    obtain ⟨T58, X58, e58, st58⟩ := getF X56 hx hZ hown (host := "") (Or.inl (hw _ (List.mem_of_getElem? (i := 50) rfl))) Via.refl e56 c57 (g := (mkF m 66 #[.val (.ref ob), .val (.int jj), .unset] [(.ref ob)])) rfl rfl (hb hby d5_66)
    obtain ⟨T59, X59, e59, st59⟩ := getF X58 hx hZ hown (host := "") (Or.inl (hw _ (List.mem_of_getElem? (i := 36) rfl))) Via.refl e58 c10 (g := (mkF m 73 #[.val (.ref ob), .val (.int jj), .unset] [(.ref ob)])) rfl rfl (hb hby d5_73)
    have c60 : Exa Z h8 ob "quorumkeep/store/Messages$Reader" := (c6.wr W8)
    obtain ⟨T61, h61, X61, e61, W61, st61⟩ := putF X59 hx hZ hown (host := "") (Or.inl (hw _ (List.mem_of_getElem? (i := 36) rfl))) Via.refl e59 c10 c60 (Or.inl (hw _ (List.mem_of_getElem? (i := 37) rfl))) (hw _ (List.mem_of_getElem? (i := 7) rfl)) (ty := .int) (by decide) rfl rfl (g := (mkF m 81 #[.val (.ref ob), .val (.int jj), .val (.int s)] [(.int (jj + (1 : Int32))), (.ref ob)])) rfl rfl (hb hby d5_81)
    have Fw61 : Fld Z h61 ob "quorumkeep/store/Messages$Reader" "start" "I" (.int (jj + (1 : Int32))) := c10.same W61
    have Z62 : n0 ≤ h61.size := Nat.le_trans Z9 (Keep.of_wr W61).1
    have K61 : Keep h0 h61 [ob] := K8.wr W61 (Or.inl (List.mem_of_getElem? (i := 0) rfl))
    have N61 := Fr.snoc X61 N13 g_ob
    have c63 : Fld Z h61 ob "quorumkeep/store/Messages$Reader" "buffer" "[B" (.ref ar) := (((F_buffer.other W2 (Or.inr (slot_ne (a0 := a0) (Or.inr (hw _ (List.mem_of_getElem? (i := 26) rfl))) (Or.inl (hw _ (List.mem_of_getElem? (i := 51) rfl))) (by decide) (t := (.array .byte)) (t' := .int) (by decide) (by decide)))).other W8 (Or.inr (slot_ne (a0 := a0) (Or.inr (hw _ (List.mem_of_getElem? (i := 26) rfl))) (Or.inl (hw _ (List.mem_of_getElem? (i := 54) rfl))) (by decide) (t := (.array .byte)) (t' := .int) (by decide) (by decide)))).other W61 (Or.inr (slot_ne (a0 := a0) (Or.inr (hw _ (List.mem_of_getElem? (i := 26) rfl))) (Or.inl (hw _ (List.mem_of_getElem? (i := 37) rfl))) (by decide) (t := (.array .byte)) (t' := .int) (by decide) (by decide))))
    obtain ⟨T64, X64, e64, st64⟩ := getF X61 hx hZ hown (host := "") (Or.inl (hw _ (List.mem_of_getElem? (i := 25) rfl))) Via.refl e61 c63 (g := (mkF m 85 #[.val (.ref ob), .val (.int jj), .val (.int s)] [(.ref ob)])) rfl rfl (hb hby d5_85)
    have pre65 : ∀ t, Steps p.tables e below (T64.setTop (mkF m 91 #[.val (.ref ob), .val (.int jj), .val (.int s)] [(.int s), (.int jj), (.int s), (.ref ar)])) t → Steps p.tables e below (s₁.setTop (entryFrame m #[(.ref ob)] 3)) t := fun t k => by
      refine pre13 t ?_
      show Steps p.tables e below (T13.setTop (mkF m 57 #[.val (.ref ob), .val (.int jj), .unset] [])) _
      refine XS.iloadN X13.here hx rfl (hb hby d5_57) rfl ?_
      show Steps p.tables e below (T13.setTop (mkF m 58 #[.val (.ref ob), .val (.int jj), .unset] [(.int jj)])) _
      refine XS.aloadN X13.here hx rfl (hb hby d5_58) rfl rfl ?_
      show Steps p.tables e below (T13.setTop (mkF m 59 #[.val (.ref ob), .val (.int jj), .unset] [(.ref ob), (.int jj)])) _
      refine st56 _ ?_
      show Steps p.tables e below (T56.setTop (mkF m 62 #[.val (.ref ob), .val (.int jj), .unset] [(.int z), (.int jj)])) _
      refine XS.icmpNo X56.here hx rfl (hb hby d5_62) rfl (tlt (hlt : jj < z)).2.1 ?_
      show Steps p.tables e below (T56.setTop (mkF m 65 #[.val (.ref ob), .val (.int jj), .unset] [])) _
      refine XS.aloadN X56.here hx rfl (hb hby d5_65) rfl rfl ?_
      show Steps p.tables e below (T56.setTop (mkF m 66 #[.val (.ref ob), .val (.int jj), .unset] [(.ref ob)])) _
      refine st58 _ ?_
      show Steps p.tables e below (T58.setTop (mkF m 69 #[.val (.ref ob), .val (.int jj), .unset] [(.int (0 : Int32))])) _
      refine XS.ifNo X58.here hx rfl (hb hby d5_69) rfl ((if0 _ _).trans (teq (by decide : (0 : Int32) = (0 : Int32))).2) ?_
      show Steps p.tables e below (T58.setTop (mkF m 72 #[.val (.ref ob), .val (.int jj), .unset] [])) _
      refine XS.aloadN X58.here hx rfl (hb hby d5_72) rfl rfl ?_
      show Steps p.tables e below (T58.setTop (mkF m 73 #[.val (.ref ob), .val (.int jj), .unset] [(.ref ob)])) _
      refine st59 _ ?_
      show Steps p.tables e below (T59.setTop (mkF m 76 #[.val (.ref ob), .val (.int jj), .unset] [(.int s)])) _
      refine XS.istoreN X59.here hx rfl (hb hby d5_76) rfl (l' := #[.val (.ref ob), .val (.int jj), .val (.int s)]) rfl ?_
      show Steps p.tables e below (T59.setTop (mkF m 77 #[.val (.ref ob), .val (.int jj), .val (.int s)] [])) _
      refine XS.aloadN X59.here hx rfl (hb hby d5_77) rfl rfl ?_
      show Steps p.tables e below (T59.setTop (mkF m 78 #[.val (.ref ob), .val (.int jj), .val (.int s)] [(.ref ob)])) _
      refine XS.iloadN X59.here hx rfl (hb hby d5_78) rfl ?_
      show Steps p.tables e below (T59.setTop (mkF m 79 #[.val (.ref ob), .val (.int jj), .val (.int s)] [(.int jj), (.ref ob)])) _
      refine XS.iconst X59.here hx rfl (hb hby d5_79) ?_
      show Steps p.tables e below (T59.setTop (mkF m 80 #[.val (.ref ob), .val (.int jj), .val (.int s)] [(.int (1 : Int32)), (.int jj), (.ref ob)])) _
      refine XS.iadd X59.here hx rfl (hb hby d5_80) rfl ?_
      show Steps p.tables e below (T59.setTop (mkF m 81 #[.val (.ref ob), .val (.int jj), .val (.int s)] [(.int (jj + (1 : Int32))), (.ref ob)])) _
      refine st61 _ ?_
      show Steps p.tables e below (T61.setTop (mkF m 84 #[.val (.ref ob), .val (.int jj), .val (.int s)] [])) _
      refine XS.aloadN X61.here hx rfl (hb hby d5_84) rfl rfl ?_
      show Steps p.tables e below (T61.setTop (mkF m 85 #[.val (.ref ob), .val (.int jj), .val (.int s)] [(.ref ob)])) _
      refine st64 _ ?_
      show Steps p.tables e below (T64.setTop (mkF m 88 #[.val (.ref ob), .val (.int jj), .val (.int s)] [(.ref ar)])) _
      refine XS.iloadN X64.here hx rfl (hb hby d5_88) rfl ?_
      show Steps p.tables e below (T64.setTop (mkF m 89 #[.val (.ref ob), .val (.int jj), .val (.int s)] [(.int s), (.ref ar)])) _
      refine XS.iloadN X64.here hx rfl (hb hby d5_89) rfl ?_
      show Steps p.tables e below (T64.setTop (mkF m 90 #[.val (.ref ob), .val (.int jj), .val (.int s)] [(.int jj), (.int s), (.ref ar)])) _
      refine XS.iloadN X64.here hx rfl (hb hby d5_90) rfl ?_
      exact k
    by_cases hc91_66 : s < jj
    · obtain ⟨T67, X67, e67, st67⟩ := getF X64 hx hZ hown (host := "") (Or.inl (hw _ (List.mem_of_getElem? (i := 25) rfl))) Via.refl e64 c63 (g := (mkF m 95 #[.val (.ref ob), .val (.int jj), .val (.int s)] [(.ref ob), (.int s), (.ref ar)])) rfl rfl (hb hby d5_95)
      have c68 : Arv Z h61 ar kk .byte z vs dv := (((V_ar.other W2 (Ne.symm ne_oar)).other W8 (Ne.symm ne_oar)).other W61 (Ne.symm ne_oar))
      obtain ⟨cl69, Ar69, -, Sz69, Nz69, Hs69, Gs69⟩ := id c68
      have hin69 : ¬ ((jj - (1 : Int32)) < 0 ∨ cl69.slots.size ≤ ((jj - (1 : Int32))).toNatClampNeg) := inb_of Sz69 (own_n1 hB hlt hc91_66)
      have hat69 : cl69.slots[((jj - (1 : Int32))).toNatClampNeg]? = some (.int (own_b vs dv (jj - (1 : Int32)))) := Hs69.at hin69 (own_bat Gs69 hin69)
      have pre70 : ∀ t, Steps p.tables e below (T67.setTop (mkF m 104 #[.val (.ref ob), .val (.int jj), .val (.int s)] [(.int (13 : Int32)), (.int (own_b vs dv (jj - (1 : Int32)))), (.int s), (.ref ar)])) t → Steps p.tables e below (s₁.setTop (entryFrame m #[(.ref ob)] 3)) t := fun t k => by
        refine pre65 t ?_
        show Steps p.tables e below (T64.setTop (mkF m 91 #[.val (.ref ob), .val (.int jj), .val (.int s)] [(.int s), (.int jj), (.int s), (.ref ar)])) _
        refine XS.icmpNo X64.here hx rfl (hb hby d5_91) rfl (tlt hc91_66).2.2.2 ?_
        show Steps p.tables e below (T64.setTop (mkF m 94 #[.val (.ref ob), .val (.int jj), .val (.int s)] [(.int s), (.ref ar)])) _
        refine XS.aloadN X64.here hx rfl (hb hby d5_94) rfl rfl ?_
        show Steps p.tables e below (T64.setTop (mkF m 95 #[.val (.ref ob), .val (.int jj), .val (.int s)] [(.ref ob), (.int s), (.ref ar)])) _
        refine st67 _ ?_
        show Steps p.tables e below (T67.setTop (mkF m 98 #[.val (.ref ob), .val (.int jj), .val (.int s)] [(.ref ar), (.int s), (.ref ar)])) _
        refine XS.iloadN X67.here hx rfl (hb hby d5_98) rfl ?_
        show Steps p.tables e below (T67.setTop (mkF m 99 #[.val (.ref ob), .val (.int jj), .val (.int s)] [(.int jj), (.ref ar), (.int s), (.ref ar)])) _
        refine XS.iconst X67.here hx rfl (hb hby d5_99) ?_
        show Steps p.tables e below (T67.setTop (mkF m 100 #[.val (.ref ob), .val (.int jj), .val (.int s)] [(.int (1 : Int32)), (.int jj), (.ref ar), (.int s), (.ref ar)])) _
        refine XS.isub X67.here hx rfl (hb hby d5_100) rfl ?_
        show Steps p.tables e below (T67.setTop (mkF m 101 #[.val (.ref ob), .val (.int jj), .val (.int s)] [(.int (jj - (1 : Int32))), (.ref ar), (.int s), (.ref ar)])) _
        refine X67.baloadBytes hx (j := (jj - (1 : Int32))) (v := (.int (own_b vs dv (jj - (1 : Int32))))) (by rw [e67]; exact Ar69.1) (State.isArrayOf_alike hZ.alike Ar69.2.1) Ar69.2.2 hin69 hat69 (g := (mkF m 101 #[.val (.ref ob), .val (.int jj), .val (.int s)] [(.int (jj - (1 : Int32))), (.ref ar), (.int s), (.ref ar)])) rfl rfl (hb hby d5_101) _ ?_
        show Steps p.tables e below (T67.setTop (mkF m 102 #[.val (.ref ob), .val (.int jj), .val (.int s)] [(.int (own_b vs dv (jj - (1 : Int32)))), (.int s), (.ref ar)])) _
        refine XS.bipush X67.here hx rfl (hb hby d5_102) ?_
        exact k
      by_cases hc104_71 : (own_b vs dv (jj - (1 : Int32))) = (13 : Int32)
      · obtain ⟨_, _, ⟨T72, L72, k72, n72⟩, -, X72, ⟨Lc72, hQ72, l72, y72, z72⟩, st72⟩ := Jvm.LawKit.callS X67 hx (y := (⟨"java/util/Arrays", "copyOfRange", "([BII)[B"⟩ : MethodName)) hown (mvT hZ (hw _ (List.mem_of_getElem? (i := 75) rfl))) (mvT hZ (hw _ (List.mem_of_getElem? (i := 76) rfl))) (mvT hZ (hw _ (List.mem_of_getElem? (i := 77) rfl))) (mvT hZ (hw _ (List.mem_of_getElem? (i := 78) rfl))) (by decide) (backOf (W := 0) (rmcr l Z a0 hw [] ar s (jj - (1 : Int32)) kk z vs dv h61 n0 Z62 c68 (own_cb2 hB hlt hc91_66) (own_ne2 hB hlt hc91_66)) hZ (hw _ (List.mem_of_getElem? (i := 78) rfl)) (hw _ (List.mem_of_getElem? (i := 77) rfl)) (by decide) (by decide)) (g := (mkF m 114 #[.val (.ref ob), .val (.int jj), .val (.int s)] [(.int (jj - (1 : Int32))), (.int s), (.ref ar)])) rfl (by rw [hml]; rfl) (argsL := [(.ref ar), (.int s), (.int (jj - (1 : Int32)))]) (rest := []) (lenOf pd_3 rfl) rfl (by show 2 * 0 + _ ≤ _; exact Nat.le_of_eq rfl) (hb hby d5_114) (fun _ _ => ⟨rfl, e67, (by decide : 0 + 1 ≤ _), (by decide : 0 + 4 ≤ _)⟩)
        dsimp only [Pt.U, Pt.locs, Pt.cells, Pt.slots] at X72 l72 y72 z72 st72 hQ72
        subst l72 y72 z72
        obtain ⟨x72, rfl, Nq72, Kq72⟩ := hQ72
        have N72 := Fr.app N61 Nq72
        have Z73 : n0 ≤ T72.heap.size := Nat.le_trans Z62 Kq72.1
        have K74 : Keep h0 T72.heap [ob] := K61.trans Kq72 all0
        have pre75 : ∀ t, Steps p.tables e below (T72.setTop (mkF m 117 #[.val (.ref ob), .val (.int jj), .val (.int s)] [(.ref x72)])) t → Steps p.tables e below (s₁.setTop (entryFrame m #[(.ref ob)] 3)) t := fun t k => by
          refine pre70 t ?_
          show Steps p.tables e below (T67.setTop (mkF m 104 #[.val (.ref ob), .val (.int jj), .val (.int s)] [(.int (13 : Int32)), (.int (own_b vs dv (jj - (1 : Int32)))), (.int s), (.ref ar)])) _
          refine XS.icmpNo X67.here hx rfl (hb hby d5_104) rfl (teq hc104_71).2 ?_
          show Steps p.tables e below (T67.setTop (mkF m 107 #[.val (.ref ob), .val (.int jj), .val (.int s)] [(.int s), (.ref ar)])) _
          refine XS.iloadN X67.here hx rfl (hb hby d5_107) rfl ?_
          show Steps p.tables e below (T67.setTop (mkF m 108 #[.val (.ref ob), .val (.int jj), .val (.int s)] [(.int jj), (.int s), (.ref ar)])) _
          refine XS.iconst X67.here hx rfl (hb hby d5_108) ?_
          show Steps p.tables e below (T67.setTop (mkF m 109 #[.val (.ref ob), .val (.int jj), .val (.int s)] [(.int (1 : Int32)), (.int jj), (.int s), (.ref ar)])) _
          refine XS.isub X67.here hx rfl (hb hby d5_109) rfl ?_
          show Steps p.tables e below (T67.setTop (mkF m 110 #[.val (.ref ob), .val (.int jj), .val (.int s)] [(.int (jj - (1 : Int32))), (.int s), (.ref ar)])) _
          refine XS.goto X67.here hx rfl (pc0 := 110) (pc' := 114) rfl (hb hby d5_110) (by decide) (by decide) ?_
          show Steps p.tables e below (T67.setTop (mkF m 114 #[.val (.ref ob), .val (.int jj), .val (.int s)] [(.int (jj - (1 : Int32))), (.int s), (.ref ar)])) _
          refine st72 _ ?_
          exact k
        obtain ⟨fs, hrq, hrun, hended, hW, hsame⟩ := X72.leave (v := some (.ref x72)) (fun h => by rw [Bd.returns] at h; cases h)
        refine ⟨_, _, pre75 _ ?_, hrun, hended, _, _, rfl, ?_, ⟨_, rfl⟩, hW, hsame.mono (by decide) (by decide)⟩
        · show Steps p.tables e below (T72.setTop (mkF m 117 #[.val (.ref ob), .val (.int jj), .val (.int s)] [(.ref x72)])) _
          exact retOut X72 hx Bd.returns rfl (Or.inr (Or.inr (Or.inr (Or.inr ⟨rfl, rfl, rfl⟩)))) (hb hby d5_117) hrq
        · show QnextY Z ob ar kk z vs dv ln kl s h0 n0 _ T72.heap _
          have c76 : Exa Z T72.heap ob "quorumkeep/store/Messages$Reader" := ((c60.wr W61).keep Kq72)
          have c77 : Fld Z T72.heap ob "quorumkeep/store/Messages$Reader" "line" "[B" (.ref ln) := ((((F_line.other W2 (Or.inr (slot_ne (a0 := a0) (Or.inl (hw _ (List.mem_of_getElem? (i := 18) rfl))) (Or.inl (hw _ (List.mem_of_getElem? (i := 51) rfl))) (by decide) (t := (.array .byte)) (t' := .int) (by decide) (by decide)))).other W8 (Or.inr (slot_ne (a0 := a0) (Or.inl (hw _ (List.mem_of_getElem? (i := 18) rfl))) (Or.inl (hw _ (List.mem_of_getElem? (i := 54) rfl))) (by decide) (t := (.array .byte)) (t' := .int) (by decide) (by decide)))).other W61 (Or.inr (slot_ne (a0 := a0) (Or.inl (hw _ (List.mem_of_getElem? (i := 18) rfl))) (Or.inl (hw _ (List.mem_of_getElem? (i := 37) rfl))) (by decide) (t := (.array .byte)) (t' := .int) (by decide) (by decide)))).keep Kq72 nin0)
          have c78 : Fld Z T72.heap ob "quorumkeep/store/Messages$Reader" "length" "J" (.long (z.toInt64)) := ((((F_length.other W2 (Or.inr (slot_ne (a0 := a0) (Or.inr (hw _ (List.mem_of_getElem? (i := 22) rfl))) (Or.inl (hw _ (List.mem_of_getElem? (i := 51) rfl))) (by decide) (t := .long) (t' := .int) (by decide) (by decide)))).other W8 (Or.inr (slot_ne (a0 := a0) (Or.inr (hw _ (List.mem_of_getElem? (i := 22) rfl))) (Or.inl (hw _ (List.mem_of_getElem? (i := 54) rfl))) (by decide) (t := .long) (t' := .int) (by decide) (by decide)))).other W61 (Or.inr (slot_ne (a0 := a0) (Or.inr (hw _ (List.mem_of_getElem? (i := 22) rfl))) (Or.inl (hw _ (List.mem_of_getElem? (i := 37) rfl))) (by decide) (t := .long) (t' := .int) (by decide) (by decide)))).keep Kq72 nin0)
          have c79 : Fld Z T72.heap ob "quorumkeep/store/Messages$Reader" "budget" "Lquorumkeep/base/HeapBudget;" .null := (((c4.other W8 (Or.inr (slot_ne (a0 := a0) (Or.inr (hw _ (List.mem_of_getElem? (i := 24) rfl))) (Or.inl (hw _ (List.mem_of_getElem? (i := 54) rfl))) (by decide) (t := (.object "quorumkeep/base/HeapBudget")) (t' := .int) (by decide) (by decide)))).other W61 (Or.inr (slot_ne (a0 := a0) (Or.inr (hw _ (List.mem_of_getElem? (i := 24) rfl))) (Or.inl (hw _ (List.mem_of_getElem? (i := 37) rfl))) (by decide) (t := (.object "quorumkeep/base/HeapBudget")) (t' := .int) (by decide) (by decide)))).keep Kq72 nin0)
          have c80 : Fld Z T72.heap ob "quorumkeep/store/Messages$Reader" "buffer" "[B" (.ref ar) := (c63.keep Kq72 nin0)
          have c81 : Fld Z T72.heap ob "quorumkeep/store/Messages$Reader" "end" "I" (.int z) := ((c55.other W61 (Or.inr (slot_ne (a0 := a0) (Or.inl (hw _ (List.mem_of_getElem? (i := 28) rfl))) (Or.inl (hw _ (List.mem_of_getElem? (i := 37) rfl))) (by decide) (t := .int) (t' := .int) (by decide) (by decide)))).keep Kq72 nin0)
          have c82 : Fld Z T72.heap ob "quorumkeep/store/Messages$Reader" "read" "J" (.long (z.toInt64)) := ((((F_read.other W2 (Or.inr (slot_ne (a0 := a0) (Or.inl (hw _ (List.mem_of_getElem? (i := 30) rfl))) (Or.inl (hw _ (List.mem_of_getElem? (i := 51) rfl))) (by decide) (t := .long) (t' := .int) (by decide) (by decide)))).other W8 (Or.inr (slot_ne (a0 := a0) (Or.inl (hw _ (List.mem_of_getElem? (i := 30) rfl))) (Or.inl (hw _ (List.mem_of_getElem? (i := 54) rfl))) (by decide) (t := .long) (t' := .int) (by decide) (by decide)))).other W61 (Or.inr (slot_ne (a0 := a0) (Or.inl (hw _ (List.mem_of_getElem? (i := 30) rfl))) (Or.inl (hw _ (List.mem_of_getElem? (i := 37) rfl))) (by decide) (t := .long) (t' := .int) (by decide) (by decide)))).keep Kq72 nin0)
          have c83 : Fld Z T72.heap ob "quorumkeep/store/Messages$Reader" "start" "I" (.int (jj + (1 : Int32))) := (Fw61.keep Kq72 nin0)
          have c84 : Fld Z T72.heap ob "quorumkeep/store/Messages$Reader" "held" "I" (.int (0 : Int32)) := ((((F_held.other W2 (Or.inr (slot_ne (a0 := a0) (Or.inl (hw _ (List.mem_of_getElem? (i := 49) rfl))) (Or.inl (hw _ (List.mem_of_getElem? (i := 51) rfl))) (by decide) (t := .int) (t' := .int) (by decide) (by decide)))).other W8 (Or.inr (slot_ne (a0 := a0) (Or.inl (hw _ (List.mem_of_getElem? (i := 49) rfl))) (Or.inl (hw _ (List.mem_of_getElem? (i := 54) rfl))) (by decide) (t := .int) (t' := .int) (by decide) (by decide)))).other W61 (Or.inr (slot_ne (a0 := a0) (Or.inl (hw _ (List.mem_of_getElem? (i := 49) rfl))) (Or.inl (hw _ (List.mem_of_getElem? (i := 37) rfl))) (by decide) (t := .int) (t' := .int) (by decide) (by decide)))).keep Kq72 nin0)
          have c85 : Fld Z T72.heap ob "quorumkeep/store/Messages$Reader" "atEnd" "Z" (.int (0 : Int32)) := ((((F_atEnd.other W2 (Or.inr (slot_ne (a0 := a0) (Or.inl (hw _ (List.mem_of_getElem? (i := 68) rfl))) (Or.inl (hw _ (List.mem_of_getElem? (i := 51) rfl))) (by decide) (t := .boolean) (t' := .int) (by decide) (by decide)))).other W8 (Or.inr (slot_ne (a0 := a0) (Or.inl (hw _ (List.mem_of_getElem? (i := 68) rfl))) (Or.inl (hw _ (List.mem_of_getElem? (i := 54) rfl))) (by decide) (t := .boolean) (t' := .int) (by decide) (by decide)))).other W61 (Or.inr (slot_ne (a0 := a0) (Or.inl (hw _ (List.mem_of_getElem? (i := 68) rfl))) (Or.inl (hw _ (List.mem_of_getElem? (i := 37) rfl))) (by decide) (t := .boolean) (t' := .int) (by decide) (by decide)))).keep Kq72 nin0)
          have c86 : Fld Z T72.heap ob "quorumkeep/store/Messages$Reader" "size" "I" (.int (0 : Int32)) := ((c57.other W61 (Or.inr (slot_ne (a0 := a0) (Or.inl (hw _ (List.mem_of_getElem? (i := 51) rfl))) (Or.inl (hw _ (List.mem_of_getElem? (i := 37) rfl))) (by decide) (t := .int) (t' := .int) (by decide) (by decide)))).keep Kq72 nin0)
          have c87 : Fld Z T72.heap ob "quorumkeep/store/Messages$Reader" "keepable" "I" (.int (4194306 : Int32)) := ((Fw8.other W61 (Or.inr (slot_ne (a0 := a0) (Or.inl (hw _ (List.mem_of_getElem? (i := 54) rfl))) (Or.inl (hw _ (List.mem_of_getElem? (i := 37) rfl))) (by decide) (t := .int) (t' := .int) (by decide) (by decide)))).keep Kq72 nin0)
          exact ⟨_, rfl, N72, K74, ⟨ln, ⟨c76, c77, c78, c79, c80, c81, c82, (by rw [hA]; exact c83), c84, c85, ⟨_, c86⟩, ⟨_, c87⟩⟩, fun _ => rfl⟩⟩
      · obtain ⟨_, _, ⟨T88, L88, k88, n88⟩, -, X88, ⟨Lc88, hQ88, l88, y88, z88⟩, st88⟩ := Jvm.LawKit.callS X67 hx (y := (⟨"java/util/Arrays", "copyOfRange", "([BII)[B"⟩ : MethodName)) hown (mvT hZ (hw _ (List.mem_of_getElem? (i := 75) rfl))) (mvT hZ (hw _ (List.mem_of_getElem? (i := 76) rfl))) (mvT hZ (hw _ (List.mem_of_getElem? (i := 77) rfl))) (mvT hZ (hw _ (List.mem_of_getElem? (i := 78) rfl))) (by decide) (backOf (W := 0) (rmcr l Z a0 hw [] ar s jj kk z vs dv h61 n0 Z62 c68 (own_cb1 hB hlt hge) (own_ne1 hlt)) hZ (hw _ (List.mem_of_getElem? (i := 78) rfl)) (hw _ (List.mem_of_getElem? (i := 77) rfl)) (by decide) (by decide)) (g := (mkF m 114 #[.val (.ref ob), .val (.int jj), .val (.int s)] [(.int jj), (.int s), (.ref ar)])) rfl (by rw [hml]; rfl) (argsL := [(.ref ar), (.int s), (.int jj)]) (rest := []) (lenOf pd_3 rfl) rfl (by show 2 * 0 + _ ≤ _; exact Nat.le_of_eq rfl) (hb hby d5_114) (fun _ _ => ⟨rfl, e67, (by decide : 0 + 1 ≤ _), (by decide : 0 + 4 ≤ _)⟩)
        dsimp only [Pt.U, Pt.locs, Pt.cells, Pt.slots] at X88 l88 y88 z88 st88 hQ88
        subst l88 y88 z88
        obtain ⟨x88, rfl, Nq88, Kq88⟩ := hQ88
        have N88 := Fr.app N61 Nq88
        have Z89 : n0 ≤ T88.heap.size := Nat.le_trans Z62 Kq88.1
        have K90 : Keep h0 T88.heap [ob] := K61.trans Kq88 all0
        have pre91 : ∀ t, Steps p.tables e below (T88.setTop (mkF m 117 #[.val (.ref ob), .val (.int jj), .val (.int s)] [(.ref x88)])) t → Steps p.tables e below (s₁.setTop (entryFrame m #[(.ref ob)] 3)) t := fun t k => by
          refine pre70 t ?_
          show Steps p.tables e below (T67.setTop (mkF m 104 #[.val (.ref ob), .val (.int jj), .val (.int s)] [(.int (13 : Int32)), (.int (own_b vs dv (jj - (1 : Int32)))), (.int s), (.ref ar)])) _
          refine XS.icmpYes X67.here hx rfl (pc0 := 104) (pc' := 113) rfl (hb hby d5_104) rfl (feq hc104_71).2 (by decide) (by decide) ?_
          show Steps p.tables e below (T67.setTop (mkF m 113 #[.val (.ref ob), .val (.int jj), .val (.int s)] [(.int s), (.ref ar)])) _
          refine XS.iloadN X67.here hx rfl (hb hby d5_113) rfl ?_
          show Steps p.tables e below (T67.setTop (mkF m 114 #[.val (.ref ob), .val (.int jj), .val (.int s)] [(.int jj), (.int s), (.ref ar)])) _
          refine st88 _ ?_
          exact k
        obtain ⟨fs, hrq, hrun, hended, hW, hsame⟩ := X88.leave (v := some (.ref x88)) (fun h => by rw [Bd.returns] at h; cases h)
        refine ⟨_, _, pre91 _ ?_, hrun, hended, _, _, rfl, ?_, ⟨_, rfl⟩, hW, hsame.mono (by decide) (by decide)⟩
        · show Steps p.tables e below (T88.setTop (mkF m 117 #[.val (.ref ob), .val (.int jj), .val (.int s)] [(.ref x88)])) _
          exact retOut X88 hx Bd.returns rfl (Or.inr (Or.inr (Or.inr (Or.inr ⟨rfl, rfl, rfl⟩)))) (hb hby d5_117) hrq
        · show QnextY Z ob ar kk z vs dv ln kl s h0 n0 _ T88.heap _
          have c92 : Exa Z T88.heap ob "quorumkeep/store/Messages$Reader" := ((c60.wr W61).keep Kq88)
          have c93 : Fld Z T88.heap ob "quorumkeep/store/Messages$Reader" "line" "[B" (.ref ln) := ((((F_line.other W2 (Or.inr (slot_ne (a0 := a0) (Or.inl (hw _ (List.mem_of_getElem? (i := 18) rfl))) (Or.inl (hw _ (List.mem_of_getElem? (i := 51) rfl))) (by decide) (t := (.array .byte)) (t' := .int) (by decide) (by decide)))).other W8 (Or.inr (slot_ne (a0 := a0) (Or.inl (hw _ (List.mem_of_getElem? (i := 18) rfl))) (Or.inl (hw _ (List.mem_of_getElem? (i := 54) rfl))) (by decide) (t := (.array .byte)) (t' := .int) (by decide) (by decide)))).other W61 (Or.inr (slot_ne (a0 := a0) (Or.inl (hw _ (List.mem_of_getElem? (i := 18) rfl))) (Or.inl (hw _ (List.mem_of_getElem? (i := 37) rfl))) (by decide) (t := (.array .byte)) (t' := .int) (by decide) (by decide)))).keep Kq88 nin0)
          have c94 : Fld Z T88.heap ob "quorumkeep/store/Messages$Reader" "length" "J" (.long (z.toInt64)) := ((((F_length.other W2 (Or.inr (slot_ne (a0 := a0) (Or.inr (hw _ (List.mem_of_getElem? (i := 22) rfl))) (Or.inl (hw _ (List.mem_of_getElem? (i := 51) rfl))) (by decide) (t := .long) (t' := .int) (by decide) (by decide)))).other W8 (Or.inr (slot_ne (a0 := a0) (Or.inr (hw _ (List.mem_of_getElem? (i := 22) rfl))) (Or.inl (hw _ (List.mem_of_getElem? (i := 54) rfl))) (by decide) (t := .long) (t' := .int) (by decide) (by decide)))).other W61 (Or.inr (slot_ne (a0 := a0) (Or.inr (hw _ (List.mem_of_getElem? (i := 22) rfl))) (Or.inl (hw _ (List.mem_of_getElem? (i := 37) rfl))) (by decide) (t := .long) (t' := .int) (by decide) (by decide)))).keep Kq88 nin0)
          have c95 : Fld Z T88.heap ob "quorumkeep/store/Messages$Reader" "budget" "Lquorumkeep/base/HeapBudget;" .null := (((c4.other W8 (Or.inr (slot_ne (a0 := a0) (Or.inr (hw _ (List.mem_of_getElem? (i := 24) rfl))) (Or.inl (hw _ (List.mem_of_getElem? (i := 54) rfl))) (by decide) (t := (.object "quorumkeep/base/HeapBudget")) (t' := .int) (by decide) (by decide)))).other W61 (Or.inr (slot_ne (a0 := a0) (Or.inr (hw _ (List.mem_of_getElem? (i := 24) rfl))) (Or.inl (hw _ (List.mem_of_getElem? (i := 37) rfl))) (by decide) (t := (.object "quorumkeep/base/HeapBudget")) (t' := .int) (by decide) (by decide)))).keep Kq88 nin0)
          have c96 : Fld Z T88.heap ob "quorumkeep/store/Messages$Reader" "buffer" "[B" (.ref ar) := (c63.keep Kq88 nin0)
          have c97 : Fld Z T88.heap ob "quorumkeep/store/Messages$Reader" "end" "I" (.int z) := ((c55.other W61 (Or.inr (slot_ne (a0 := a0) (Or.inl (hw _ (List.mem_of_getElem? (i := 28) rfl))) (Or.inl (hw _ (List.mem_of_getElem? (i := 37) rfl))) (by decide) (t := .int) (t' := .int) (by decide) (by decide)))).keep Kq88 nin0)
          have c98 : Fld Z T88.heap ob "quorumkeep/store/Messages$Reader" "read" "J" (.long (z.toInt64)) := ((((F_read.other W2 (Or.inr (slot_ne (a0 := a0) (Or.inl (hw _ (List.mem_of_getElem? (i := 30) rfl))) (Or.inl (hw _ (List.mem_of_getElem? (i := 51) rfl))) (by decide) (t := .long) (t' := .int) (by decide) (by decide)))).other W8 (Or.inr (slot_ne (a0 := a0) (Or.inl (hw _ (List.mem_of_getElem? (i := 30) rfl))) (Or.inl (hw _ (List.mem_of_getElem? (i := 54) rfl))) (by decide) (t := .long) (t' := .int) (by decide) (by decide)))).other W61 (Or.inr (slot_ne (a0 := a0) (Or.inl (hw _ (List.mem_of_getElem? (i := 30) rfl))) (Or.inl (hw _ (List.mem_of_getElem? (i := 37) rfl))) (by decide) (t := .long) (t' := .int) (by decide) (by decide)))).keep Kq88 nin0)
          have c99 : Fld Z T88.heap ob "quorumkeep/store/Messages$Reader" "start" "I" (.int (jj + (1 : Int32))) := (Fw61.keep Kq88 nin0)
          have c100 : Fld Z T88.heap ob "quorumkeep/store/Messages$Reader" "held" "I" (.int (0 : Int32)) := ((((F_held.other W2 (Or.inr (slot_ne (a0 := a0) (Or.inl (hw _ (List.mem_of_getElem? (i := 49) rfl))) (Or.inl (hw _ (List.mem_of_getElem? (i := 51) rfl))) (by decide) (t := .int) (t' := .int) (by decide) (by decide)))).other W8 (Or.inr (slot_ne (a0 := a0) (Or.inl (hw _ (List.mem_of_getElem? (i := 49) rfl))) (Or.inl (hw _ (List.mem_of_getElem? (i := 54) rfl))) (by decide) (t := .int) (t' := .int) (by decide) (by decide)))).other W61 (Or.inr (slot_ne (a0 := a0) (Or.inl (hw _ (List.mem_of_getElem? (i := 49) rfl))) (Or.inl (hw _ (List.mem_of_getElem? (i := 37) rfl))) (by decide) (t := .int) (t' := .int) (by decide) (by decide)))).keep Kq88 nin0)
          have c101 : Fld Z T88.heap ob "quorumkeep/store/Messages$Reader" "atEnd" "Z" (.int (0 : Int32)) := ((((F_atEnd.other W2 (Or.inr (slot_ne (a0 := a0) (Or.inl (hw _ (List.mem_of_getElem? (i := 68) rfl))) (Or.inl (hw _ (List.mem_of_getElem? (i := 51) rfl))) (by decide) (t := .boolean) (t' := .int) (by decide) (by decide)))).other W8 (Or.inr (slot_ne (a0 := a0) (Or.inl (hw _ (List.mem_of_getElem? (i := 68) rfl))) (Or.inl (hw _ (List.mem_of_getElem? (i := 54) rfl))) (by decide) (t := .boolean) (t' := .int) (by decide) (by decide)))).other W61 (Or.inr (slot_ne (a0 := a0) (Or.inl (hw _ (List.mem_of_getElem? (i := 68) rfl))) (Or.inl (hw _ (List.mem_of_getElem? (i := 37) rfl))) (by decide) (t := .boolean) (t' := .int) (by decide) (by decide)))).keep Kq88 nin0)
          have c102 : Fld Z T88.heap ob "quorumkeep/store/Messages$Reader" "size" "I" (.int (0 : Int32)) := ((c57.other W61 (Or.inr (slot_ne (a0 := a0) (Or.inl (hw _ (List.mem_of_getElem? (i := 51) rfl))) (Or.inl (hw _ (List.mem_of_getElem? (i := 37) rfl))) (by decide) (t := .int) (t' := .int) (by decide) (by decide)))).keep Kq88 nin0)
          have c103 : Fld Z T88.heap ob "quorumkeep/store/Messages$Reader" "keepable" "I" (.int (4194306 : Int32)) := ((Fw8.other W61 (Or.inr (slot_ne (a0 := a0) (Or.inl (hw _ (List.mem_of_getElem? (i := 54) rfl))) (Or.inl (hw _ (List.mem_of_getElem? (i := 37) rfl))) (by decide) (t := .int) (t' := .int) (by decide) (by decide)))).keep Kq88 nin0)
          exact ⟨_, rfl, N88, K90, ⟨ln, ⟨c92, c93, c94, c95, c96, c97, c98, (by rw [hA]; exact c99), c100, c101, ⟨_, c102⟩, ⟨_, c103⟩⟩, fun _ => rfl⟩⟩
    · have c104 : Arv Z h61 ar kk .byte z vs dv := (((V_ar.other W2 (Ne.symm ne_oar)).other W8 (Ne.symm ne_oar)).other W61 (Ne.symm ne_oar))
      obtain ⟨_, _, ⟨T105, L105, k105, n105⟩, -, X105, ⟨Lc105, hQ105, l105, y105, z105⟩, st105⟩ := Jvm.LawKit.callS X64 hx (y := (⟨"java/util/Arrays", "copyOfRange", "([BII)[B"⟩ : MethodName)) hown (mvT hZ (hw _ (List.mem_of_getElem? (i := 75) rfl))) (mvT hZ (hw _ (List.mem_of_getElem? (i := 76) rfl))) (mvT hZ (hw _ (List.mem_of_getElem? (i := 77) rfl))) (mvT hZ (hw _ (List.mem_of_getElem? (i := 78) rfl))) (by decide) (backOf (W := 0) (rmcr l Z a0 hw [] ar s jj kk z vs dv h61 n0 Z62 c104 (own_cb1 hB hlt hge) (own_ne1 hlt)) hZ (hw _ (List.mem_of_getElem? (i := 78) rfl)) (hw _ (List.mem_of_getElem? (i := 77) rfl)) (by decide) (by decide)) (g := (mkF m 114 #[.val (.ref ob), .val (.int jj), .val (.int s)] [(.int jj), (.int s), (.ref ar)])) rfl (by rw [hml]; rfl) (argsL := [(.ref ar), (.int s), (.int jj)]) (rest := []) (lenOf pd_3 rfl) rfl (by show 2 * 0 + _ ≤ _; exact Nat.le_of_eq rfl) (hb hby d5_114) (fun _ _ => ⟨rfl, e64, (by decide : 0 + 1 ≤ _), (by decide : 0 + 4 ≤ _)⟩)
      dsimp only [Pt.U, Pt.locs, Pt.cells, Pt.slots] at X105 l105 y105 z105 st105 hQ105
      subst l105 y105 z105
      obtain ⟨x105, rfl, Nq105, Kq105⟩ := hQ105
      have N105 := Fr.app N61 Nq105
      have Z106 : n0 ≤ T105.heap.size := Nat.le_trans Z62 Kq105.1
      have K107 : Keep h0 T105.heap [ob] := K61.trans Kq105 all0
      have pre108 : ∀ t, Steps p.tables e below (T105.setTop (mkF m 117 #[.val (.ref ob), .val (.int jj), .val (.int s)] [(.ref x105)])) t → Steps p.tables e below (s₁.setTop (entryFrame m #[(.ref ob)] 3)) t := fun t k => by
        refine pre65 t ?_
        show Steps p.tables e below (T64.setTop (mkF m 91 #[.val (.ref ob), .val (.int jj), .val (.int s)] [(.int s), (.int jj), (.int s), (.ref ar)])) _
        refine XS.icmpYes X64.here hx rfl (pc0 := 91) (pc' := 113) rfl (hb hby d5_91) rfl (flt hc91_66).2.2.2 (by decide) (by decide) ?_
        show Steps p.tables e below (T64.setTop (mkF m 113 #[.val (.ref ob), .val (.int jj), .val (.int s)] [(.int s), (.ref ar)])) _
        refine XS.iloadN X64.here hx rfl (hb hby d5_113) rfl ?_
        show Steps p.tables e below (T64.setTop (mkF m 114 #[.val (.ref ob), .val (.int jj), .val (.int s)] [(.int jj), (.int s), (.ref ar)])) _
        refine st105 _ ?_
        exact k
      obtain ⟨fs, hrq, hrun, hended, hW, hsame⟩ := X105.leave (v := some (.ref x105)) (fun h => by rw [Bd.returns] at h; cases h)
      refine ⟨_, _, pre108 _ ?_, hrun, hended, _, _, rfl, ?_, ⟨_, rfl⟩, hW, hsame.mono (by decide) (by decide)⟩
      · show Steps p.tables e below (T105.setTop (mkF m 117 #[.val (.ref ob), .val (.int jj), .val (.int s)] [(.ref x105)])) _
        exact retOut X105 hx Bd.returns rfl (Or.inr (Or.inr (Or.inr (Or.inr ⟨rfl, rfl, rfl⟩)))) (hb hby d5_117) hrq
      · show QnextY Z ob ar kk z vs dv ln kl s h0 n0 _ T105.heap _
        have c109 : Exa Z T105.heap ob "quorumkeep/store/Messages$Reader" := ((c60.wr W61).keep Kq105)
        have c110 : Fld Z T105.heap ob "quorumkeep/store/Messages$Reader" "line" "[B" (.ref ln) := ((((F_line.other W2 (Or.inr (slot_ne (a0 := a0) (Or.inl (hw _ (List.mem_of_getElem? (i := 18) rfl))) (Or.inl (hw _ (List.mem_of_getElem? (i := 51) rfl))) (by decide) (t := (.array .byte)) (t' := .int) (by decide) (by decide)))).other W8 (Or.inr (slot_ne (a0 := a0) (Or.inl (hw _ (List.mem_of_getElem? (i := 18) rfl))) (Or.inl (hw _ (List.mem_of_getElem? (i := 54) rfl))) (by decide) (t := (.array .byte)) (t' := .int) (by decide) (by decide)))).other W61 (Or.inr (slot_ne (a0 := a0) (Or.inl (hw _ (List.mem_of_getElem? (i := 18) rfl))) (Or.inl (hw _ (List.mem_of_getElem? (i := 37) rfl))) (by decide) (t := (.array .byte)) (t' := .int) (by decide) (by decide)))).keep Kq105 nin0)
        have c111 : Fld Z T105.heap ob "quorumkeep/store/Messages$Reader" "length" "J" (.long (z.toInt64)) := ((((F_length.other W2 (Or.inr (slot_ne (a0 := a0) (Or.inr (hw _ (List.mem_of_getElem? (i := 22) rfl))) (Or.inl (hw _ (List.mem_of_getElem? (i := 51) rfl))) (by decide) (t := .long) (t' := .int) (by decide) (by decide)))).other W8 (Or.inr (slot_ne (a0 := a0) (Or.inr (hw _ (List.mem_of_getElem? (i := 22) rfl))) (Or.inl (hw _ (List.mem_of_getElem? (i := 54) rfl))) (by decide) (t := .long) (t' := .int) (by decide) (by decide)))).other W61 (Or.inr (slot_ne (a0 := a0) (Or.inr (hw _ (List.mem_of_getElem? (i := 22) rfl))) (Or.inl (hw _ (List.mem_of_getElem? (i := 37) rfl))) (by decide) (t := .long) (t' := .int) (by decide) (by decide)))).keep Kq105 nin0)
        have c112 : Fld Z T105.heap ob "quorumkeep/store/Messages$Reader" "budget" "Lquorumkeep/base/HeapBudget;" .null := (((c4.other W8 (Or.inr (slot_ne (a0 := a0) (Or.inr (hw _ (List.mem_of_getElem? (i := 24) rfl))) (Or.inl (hw _ (List.mem_of_getElem? (i := 54) rfl))) (by decide) (t := (.object "quorumkeep/base/HeapBudget")) (t' := .int) (by decide) (by decide)))).other W61 (Or.inr (slot_ne (a0 := a0) (Or.inr (hw _ (List.mem_of_getElem? (i := 24) rfl))) (Or.inl (hw _ (List.mem_of_getElem? (i := 37) rfl))) (by decide) (t := (.object "quorumkeep/base/HeapBudget")) (t' := .int) (by decide) (by decide)))).keep Kq105 nin0)
        have c113 : Fld Z T105.heap ob "quorumkeep/store/Messages$Reader" "buffer" "[B" (.ref ar) := (c63.keep Kq105 nin0)
        have c114 : Fld Z T105.heap ob "quorumkeep/store/Messages$Reader" "end" "I" (.int z) := ((c55.other W61 (Or.inr (slot_ne (a0 := a0) (Or.inl (hw _ (List.mem_of_getElem? (i := 28) rfl))) (Or.inl (hw _ (List.mem_of_getElem? (i := 37) rfl))) (by decide) (t := .int) (t' := .int) (by decide) (by decide)))).keep Kq105 nin0)
        have c115 : Fld Z T105.heap ob "quorumkeep/store/Messages$Reader" "read" "J" (.long (z.toInt64)) := ((((F_read.other W2 (Or.inr (slot_ne (a0 := a0) (Or.inl (hw _ (List.mem_of_getElem? (i := 30) rfl))) (Or.inl (hw _ (List.mem_of_getElem? (i := 51) rfl))) (by decide) (t := .long) (t' := .int) (by decide) (by decide)))).other W8 (Or.inr (slot_ne (a0 := a0) (Or.inl (hw _ (List.mem_of_getElem? (i := 30) rfl))) (Or.inl (hw _ (List.mem_of_getElem? (i := 54) rfl))) (by decide) (t := .long) (t' := .int) (by decide) (by decide)))).other W61 (Or.inr (slot_ne (a0 := a0) (Or.inl (hw _ (List.mem_of_getElem? (i := 30) rfl))) (Or.inl (hw _ (List.mem_of_getElem? (i := 37) rfl))) (by decide) (t := .long) (t' := .int) (by decide) (by decide)))).keep Kq105 nin0)
        have c116 : Fld Z T105.heap ob "quorumkeep/store/Messages$Reader" "start" "I" (.int (jj + (1 : Int32))) := (Fw61.keep Kq105 nin0)
        have c117 : Fld Z T105.heap ob "quorumkeep/store/Messages$Reader" "held" "I" (.int (0 : Int32)) := ((((F_held.other W2 (Or.inr (slot_ne (a0 := a0) (Or.inl (hw _ (List.mem_of_getElem? (i := 49) rfl))) (Or.inl (hw _ (List.mem_of_getElem? (i := 51) rfl))) (by decide) (t := .int) (t' := .int) (by decide) (by decide)))).other W8 (Or.inr (slot_ne (a0 := a0) (Or.inl (hw _ (List.mem_of_getElem? (i := 49) rfl))) (Or.inl (hw _ (List.mem_of_getElem? (i := 54) rfl))) (by decide) (t := .int) (t' := .int) (by decide) (by decide)))).other W61 (Or.inr (slot_ne (a0 := a0) (Or.inl (hw _ (List.mem_of_getElem? (i := 49) rfl))) (Or.inl (hw _ (List.mem_of_getElem? (i := 37) rfl))) (by decide) (t := .int) (t' := .int) (by decide) (by decide)))).keep Kq105 nin0)
        have c118 : Fld Z T105.heap ob "quorumkeep/store/Messages$Reader" "atEnd" "Z" (.int (0 : Int32)) := ((((F_atEnd.other W2 (Or.inr (slot_ne (a0 := a0) (Or.inl (hw _ (List.mem_of_getElem? (i := 68) rfl))) (Or.inl (hw _ (List.mem_of_getElem? (i := 51) rfl))) (by decide) (t := .boolean) (t' := .int) (by decide) (by decide)))).other W8 (Or.inr (slot_ne (a0 := a0) (Or.inl (hw _ (List.mem_of_getElem? (i := 68) rfl))) (Or.inl (hw _ (List.mem_of_getElem? (i := 54) rfl))) (by decide) (t := .boolean) (t' := .int) (by decide) (by decide)))).other W61 (Or.inr (slot_ne (a0 := a0) (Or.inl (hw _ (List.mem_of_getElem? (i := 68) rfl))) (Or.inl (hw _ (List.mem_of_getElem? (i := 37) rfl))) (by decide) (t := .boolean) (t' := .int) (by decide) (by decide)))).keep Kq105 nin0)
        have c119 : Fld Z T105.heap ob "quorumkeep/store/Messages$Reader" "size" "I" (.int (0 : Int32)) := ((c57.other W61 (Or.inr (slot_ne (a0 := a0) (Or.inl (hw _ (List.mem_of_getElem? (i := 51) rfl))) (Or.inl (hw _ (List.mem_of_getElem? (i := 37) rfl))) (by decide) (t := .int) (t' := .int) (by decide) (by decide)))).keep Kq105 nin0)
        have c120 : Fld Z T105.heap ob "quorumkeep/store/Messages$Reader" "keepable" "I" (.int (4194306 : Int32)) := ((Fw8.other W61 (Or.inr (slot_ne (a0 := a0) (Or.inl (hw _ (List.mem_of_getElem? (i := 54) rfl))) (Or.inl (hw _ (List.mem_of_getElem? (i := 37) rfl))) (by decide) (t := .int) (t' := .int) (by decide) (by decide)))).keep Kq105 nin0)
        exact ⟨_, rfl, N105, K107, ⟨ln, ⟨c109, c110, c111, c112, c113, c114, c115, (by rw [hA]; exact c116), c117, c118, ⟨_, c119⟩, ⟨_, c120⟩⟩, fun _ => rfl⟩⟩
  · subst hzj
    have c121 : Fld Z h8 ob "quorumkeep/store/Messages$Reader" "end" "I" (.int z) := ((F_end.other W2 (Or.inr (slot_ne (a0 := a0) (Or.inl (hw _ (List.mem_of_getElem? (i := 28) rfl))) (Or.inl (hw _ (List.mem_of_getElem? (i := 51) rfl))) (by decide) (t := .int) (t' := .int) (by decide) (by decide)))).other W8 (Or.inr (slot_ne (a0 := a0) (Or.inl (hw _ (List.mem_of_getElem? (i := 28) rfl))) (Or.inl (hw _ (List.mem_of_getElem? (i := 54) rfl))) (by decide) (t := .int) (t' := .int) (by decide) (by decide))))
    obtain ⟨T122, X122, e122, st122⟩ := getF X13 hx hZ hown (host := "") (Or.inl (hw _ (List.mem_of_getElem? (i := 27) rfl))) Via.refl e13 c121 (g := (mkF m 59 #[.val (.ref ob), .val (.int z), .unset] [(.ref ob), (.int z)])) rfl rfl (hb hby d5_59)
    have c123 : Exa Z h8 ob "quorumkeep/store/Messages$Reader" := (c6.wr W8)
    have c124 : Fld Z h8 ob "quorumkeep/store/Messages$Reader" "size" "I" (.int (0 : Int32)) := (Fw2.other W8 (Or.inr (slot_ne (a0 := a0) (Or.inl (hw _ (List.mem_of_getElem? (i := 51) rfl))) (Or.inl (hw _ (List.mem_of_getElem? (i := 54) rfl))) (by decide) (t := .int) (t' := .int) (by decide) (by decide))))
    have c125 : Fld Z h8 ob "quorumkeep/store/Messages$Reader" "line" "[B" (.ref ln) := ((F_line.other W2 (Or.inr (slot_ne (a0 := a0) (Or.inl (hw _ (List.mem_of_getElem? (i := 18) rfl))) (Or.inl (hw _ (List.mem_of_getElem? (i := 51) rfl))) (by decide) (t := (.array .byte)) (t' := .int) (by decide) (by decide)))).other W8 (Or.inr (slot_ne (a0 := a0) (Or.inl (hw _ (List.mem_of_getElem? (i := 18) rfl))) (Or.inl (hw _ (List.mem_of_getElem? (i := 54) rfl))) (by decide) (t := (.array .byte)) (t' := .int) (by decide) (by decide))))
    have c126 : Fld Z h8 ob "quorumkeep/store/Messages$Reader" "buffer" "[B" (.ref ar) := ((F_buffer.other W2 (Or.inr (slot_ne (a0 := a0) (Or.inr (hw _ (List.mem_of_getElem? (i := 26) rfl))) (Or.inl (hw _ (List.mem_of_getElem? (i := 51) rfl))) (by decide) (t := (.array .byte)) (t' := .int) (by decide) (by decide)))).other W8 (Or.inr (slot_ne (a0 := a0) (Or.inr (hw _ (List.mem_of_getElem? (i := 26) rfl))) (Or.inl (hw _ (List.mem_of_getElem? (i := 54) rfl))) (by decide) (t := (.array .byte)) (t' := .int) (by decide) (by decide))))
    have c127 : Arv Z h8 ln kl .byte (0 : Int32) [] (.int (0 : Int32)) := ((V_ln.other W2 (Ne.symm ne_oln)).other W8 (Ne.symm ne_oln))
    have c128 : Arv Z h8 ar kk .byte z vs dv := ((V_ar.other W2 (Ne.symm ne_oar)).other W8 (Ne.symm ne_oar))
    obtain ⟨cq129, q129, q129'⟩ := c123.cell
    obtain ⟨_, _, ⟨T129, L129, k129, n129⟩, -, X129, ⟨Lc129, hQ129, l129, y129, z129⟩, st129⟩ := X122.privateBack hx (y := (⟨"quorumkeep/store/Messages$Reader", "keep", "(I)V"⟩ : MethodName)) hown (mvT hZ (hw _ (List.mem_of_getElem? (i := 55) rfl))) (mvT hZ (hw _ (List.mem_of_getElem? (i := 56) rfl))) (mvT hZ (own_selects_private (hw _ (List.mem_of_getElem? (i := 7) rfl)) (hw _ (List.mem_of_getElem? (i := 57) rfl)) (hw _ (List.mem_of_getElem? (i := 56) rfl)))) (Cond.privateMethod_at (mvP hZ (hw _ (List.mem_of_getElem? (i := 57) rfl)) (args := #[]))) (mvT hZ (hw _ (List.mem_of_getElem? (i := 58) rfl))) (by decide) (backOf (W := 0) (rmkeep l Z a0 hw [] ob z ar kk vs dv ln kl s h8 n0 Z9 c123 c10 c124 c125 c126 Fw8 c127 c128 hB g_ob) hZ (hw _ (List.mem_of_getElem? (i := 58) rfl)) (hw _ (List.mem_of_getElem? (i := 8) rfl)) (by decide) (by decide)) (g := (mkF m 120 #[.val (.ref ob), .val (.int z), .unset] [(.int z), (.ref ob)])) rfl (by rw [hml]; rfl) (Steps.refl _) (a := ob) (by rw [e122]; exact q129) q129' (argsL := [(.int z)]) (rest := []) (lenOf pd_5 rfl) rfl (by show 2 * 0 + _ ≤ _; exact Nat.le_of_eq rfl) (hb hby d5_120) (fun _ _ => ⟨rfl, e122, (by decide : 0 + 1 ≤ _), (by decide : 0 + 4 ≤ _)⟩)
    dsimp only [Pt.U, Pt.locs, Pt.cells, Pt.slots] at X129 l129 y129 z129 st129 hQ129
    subst l129 y129 z129
    obtain ⟨rfl, Nq129, Kq129, Eq129, Fz129, ⟨l2129, k2129, v2129, hs129, Fl129, Vl129, El129⟩, bt129⟩ := hQ129
    have N129 := Fr.app N13 Nq129
    have Z130 : n0 ≤ T129.heap.size := Nat.le_trans Z9 Kq129.1
    have K131 : Keep h0 T129.heap [ob] := K8.trans Kq129 (allS (Or.inl (List.mem_of_getElem? (i := 0) rfl)) all0)
    have ne_ol129 : ob ≠ l2129 := own_ne_arv Eq129 (hw _ (List.mem_of_getElem? (i := 7) rfl)) Vl129
    have c132 : Fld Z T129.heap ob "quorumkeep/store/Messages$Reader" "end" "I" (.int z) := (bt129 c121 (slot_ne (a0 := a0) (Or.inl (hw _ (List.mem_of_getElem? (i := 28) rfl))) (Or.inl (hw _ (List.mem_of_getElem? (i := 18) rfl))) (by decide) (t := .int) (t' := (.array .byte)) (by decide) (by decide)) (slot_ne (a0 := a0) (Or.inl (hw _ (List.mem_of_getElem? (i := 28) rfl))) (Or.inl (hw _ (List.mem_of_getElem? (i := 51) rfl))) (by decide) (t := .int) (t' := .int) (by decide) (by decide)))
    obtain ⟨T133, X133, e133, st133⟩ := getF X129 hx hZ hown (host := "") (Or.inl (hw _ (List.mem_of_getElem? (i := 27) rfl))) Via.refl rfl c132 (g := (mkF m 125 #[.val (.ref ob), .val (.int z), .unset] [(.ref ob), (.int z)])) rfl rfl (hb hby d5_125)
    obtain ⟨T134, X134, e134, st134⟩ := getF X133 hx hZ hown (host := "") (Or.inl (hw _ (List.mem_of_getElem? (i := 27) rfl))) Via.refl e133 c132 (g := (mkF m 181 #[.val (.ref ob), .val (.int z), .unset] [(.ref ob), (.ref ob)])) rfl rfl (hb hby d5_181)
    have c135 : Fld Z T129.heap ob "quorumkeep/store/Messages$Reader" "start" "I" (.int s) := (bt129 c10 (slot_ne (a0 := a0) (Or.inl (hw _ (List.mem_of_getElem? (i := 37) rfl))) (Or.inl (hw _ (List.mem_of_getElem? (i := 18) rfl))) (by decide) (t := .int) (t' := (.array .byte)) (by decide) (by decide)) (slot_ne (a0 := a0) (Or.inl (hw _ (List.mem_of_getElem? (i := 37) rfl))) (Or.inl (hw _ (List.mem_of_getElem? (i := 51) rfl))) (by decide) (t := .int) (t' := .int) (by decide) (by decide)))
    obtain ⟨T136, h136, X136, e136, W136, st136⟩ := putF X134 hx hZ hown (host := "") (Or.inl (hw _ (List.mem_of_getElem? (i := 36) rfl))) Via.refl e134 c135 Eq129 (Or.inl (hw _ (List.mem_of_getElem? (i := 37) rfl))) (hw _ (List.mem_of_getElem? (i := 7) rfl)) (ty := .int) (by decide) rfl rfl (g := (mkF m 184 #[.val (.ref ob), .val (.int z), .unset] [(.int z), (.ref ob)])) rfl rfl (hb hby d5_184)
    have Fw136 : Fld Z h136 ob "quorumkeep/store/Messages$Reader" "start" "I" (.int z) := c135.same W136
    have Z137 : n0 ≤ h136.size := Nat.le_trans Z130 (Keep.of_wr W136).1
    have K136 : Keep h0 h136 [ob] := K131.wr W136 (Or.inl (List.mem_of_getElem? (i := 0) rfl))
    have N136 := Fr.snoc X136 N129 g_ob
    have c138 : Fld Z h136 ob "quorumkeep/store/Messages$Reader" "atEnd" "Z" (.int (0 : Int32)) := ((bt129 ((F_atEnd.other W2 (Or.inr (slot_ne (a0 := a0) (Or.inl (hw _ (List.mem_of_getElem? (i := 68) rfl))) (Or.inl (hw _ (List.mem_of_getElem? (i := 51) rfl))) (by decide) (t := .boolean) (t' := .int) (by decide) (by decide)))).other W8 (Or.inr (slot_ne (a0 := a0) (Or.inl (hw _ (List.mem_of_getElem? (i := 68) rfl))) (Or.inl (hw _ (List.mem_of_getElem? (i := 54) rfl))) (by decide) (t := .boolean) (t' := .int) (by decide) (by decide)))) (slot_ne (a0 := a0) (Or.inl (hw _ (List.mem_of_getElem? (i := 68) rfl))) (Or.inl (hw _ (List.mem_of_getElem? (i := 18) rfl))) (by decide) (t := .boolean) (t' := (.array .byte)) (by decide) (by decide)) (slot_ne (a0 := a0) (Or.inl (hw _ (List.mem_of_getElem? (i := 68) rfl))) (Or.inl (hw _ (List.mem_of_getElem? (i := 51) rfl))) (by decide) (t := .boolean) (t' := .int) (by decide) (by decide))).other W136 (Or.inr (slot_ne (a0 := a0) (Or.inl (hw _ (List.mem_of_getElem? (i := 68) rfl))) (Or.inl (hw _ (List.mem_of_getElem? (i := 37) rfl))) (by decide) (t := .boolean) (t' := .int) (by decide) (by decide))))
    have c139 : Fld Z h136 ob "quorumkeep/store/Messages$Reader" "read" "J" (.long (z.toInt64)) := ((bt129 ((F_read.other W2 (Or.inr (slot_ne (a0 := a0) (Or.inl (hw _ (List.mem_of_getElem? (i := 30) rfl))) (Or.inl (hw _ (List.mem_of_getElem? (i := 51) rfl))) (by decide) (t := .long) (t' := .int) (by decide) (by decide)))).other W8 (Or.inr (slot_ne (a0 := a0) (Or.inl (hw _ (List.mem_of_getElem? (i := 30) rfl))) (Or.inl (hw _ (List.mem_of_getElem? (i := 54) rfl))) (by decide) (t := .long) (t' := .int) (by decide) (by decide)))) (slot_ne (a0 := a0) (Or.inl (hw _ (List.mem_of_getElem? (i := 30) rfl))) (Or.inl (hw _ (List.mem_of_getElem? (i := 18) rfl))) (by decide) (t := .long) (t' := (.array .byte)) (by decide) (by decide)) (slot_ne (a0 := a0) (Or.inl (hw _ (List.mem_of_getElem? (i := 30) rfl))) (Or.inl (hw _ (List.mem_of_getElem? (i := 51) rfl))) (by decide) (t := .long) (t' := .int) (by decide) (by decide))).other W136 (Or.inr (slot_ne (a0 := a0) (Or.inl (hw _ (List.mem_of_getElem? (i := 30) rfl))) (Or.inl (hw _ (List.mem_of_getElem? (i := 37) rfl))) (by decide) (t := .long) (t' := .int) (by decide) (by decide))))
    have c140 : Fld Z h136 ob "quorumkeep/store/Messages$Reader" "length" "J" (.long (z.toInt64)) := ((bt129 ((F_length.other W2 (Or.inr (slot_ne (a0 := a0) (Or.inr (hw _ (List.mem_of_getElem? (i := 22) rfl))) (Or.inl (hw _ (List.mem_of_getElem? (i := 51) rfl))) (by decide) (t := .long) (t' := .int) (by decide) (by decide)))).other W8 (Or.inr (slot_ne (a0 := a0) (Or.inr (hw _ (List.mem_of_getElem? (i := 22) rfl))) (Or.inl (hw _ (List.mem_of_getElem? (i := 54) rfl))) (by decide) (t := .long) (t' := .int) (by decide) (by decide)))) (slot_ne (a0 := a0) (Or.inr (hw _ (List.mem_of_getElem? (i := 22) rfl))) (Or.inl (hw _ (List.mem_of_getElem? (i := 18) rfl))) (by decide) (t := .long) (t' := (.array .byte)) (by decide) (by decide)) (slot_ne (a0 := a0) (Or.inr (hw _ (List.mem_of_getElem? (i := 22) rfl))) (Or.inl (hw _ (List.mem_of_getElem? (i := 51) rfl))) (by decide) (t := .long) (t' := .int) (by decide) (by decide))).other W136 (Or.inr (slot_ne (a0 := a0) (Or.inr (hw _ (List.mem_of_getElem? (i := 22) rfl))) (Or.inl (hw _ (List.mem_of_getElem? (i := 37) rfl))) (by decide) (t := .long) (t' := .int) (by decide) (by decide))))
    have c142 : Exa Z h136 ob "quorumkeep/store/Messages$Reader" := (Eq129.wr W136)
    obtain ⟨cq141, q141, q141'⟩ := c142.cell
    obtain ⟨_, _, ⟨T141, L141, k141, n141⟩, -, X141, ⟨Lc141, hQ141, l141, y141, z141⟩, st141⟩ := X136.privateBack hx (y := (⟨"quorumkeep/store/Messages$Reader", "fill", "()Z"⟩ : MethodName)) hown (mvT hZ (hw _ (List.mem_of_getElem? (i := 63) rfl))) (mvT hZ (hw _ (List.mem_of_getElem? (i := 64) rfl))) (mvT hZ (own_selects_private (hw _ (List.mem_of_getElem? (i := 7) rfl)) (hw _ (List.mem_of_getElem? (i := 65) rfl)) (hw _ (List.mem_of_getElem? (i := 64) rfl)))) (Cond.privateMethod_at (mvP hZ (hw _ (List.mem_of_getElem? (i := 65) rfl)) (args := #[]))) (mvT hZ (hw _ (List.mem_of_getElem? (i := 66) rfl))) (by decide) (backOf (W := 0) (rmfill l Z a0 hw [] ob z h136 n0 Z137 c138 c139 c140) hZ (hw _ (List.mem_of_getElem? (i := 66) rfl)) (hw _ (List.mem_of_getElem? (i := 8) rfl)) (by decide) (by decide)) (g := (mkF m 188 #[.val (.ref ob), .val (.int z), .unset] [(.ref ob)])) rfl (by rw [hml]; rfl) (Steps.refl _) (a := ob) (by rw [e136]; exact q141) q141' (argsL := []) (rest := []) (lenOf pd_7 rfl) rfl (by show 2 * 0 + _ ≤ _; exact Nat.le_of_eq rfl) (hb hby d5_188) (fun _ _ => ⟨rfl, e136, (by decide : 1 + 0 ≤ _), (by decide : 4 + 0 ≤ _)⟩)
    dsimp only [Pt.U, Pt.locs, Pt.cells, Pt.slots] at X141 l141 y141 z141 st141 hQ141
    subst l141 y141 z141
    obtain ⟨rfl, Nq141, hh141⟩ := hQ141
    have N141 := Fr.app N136 Nq141
    have e141 : T141.heap = h136 := hh141
    have c143 : Fld Z h136 ob "quorumkeep/store/Messages$Reader" "size" "I" (.int ((0 : Int32) + (z - s))) := (Fz129.other W136 (Or.inr (slot_ne (a0 := a0) (Or.inl (hw _ (List.mem_of_getElem? (i := 51) rfl))) (Or.inl (hw _ (List.mem_of_getElem? (i := 37) rfl))) (by decide) (t := .int) (t' := .int) (by decide) (by decide))))
    obtain ⟨T144, X144, e144, st144⟩ := getF X141 hx hZ hown (host := "") (Or.inl (hw _ (List.mem_of_getElem? (i := 50) rfl))) Via.refl e141 c143 (g := (mkF m 195 #[.val (.ref ob), .val (.int z), .unset] [(.ref ob)])) rfl rfl (hb hby d5_195)
    obtain ⟨T145, X145, e145, st145⟩ := getF X144 hx hZ hown (host := "") (Or.inl (hw _ (List.mem_of_getElem? (i := 50) rfl))) Via.refl e144 c143 (g := (mkF m 207 #[.val (.ref ob), .val (.int z), .unset] [(.ref ob), (.ref ob)])) rfl rfl (hb hby d5_207)
    have c146 : Fld Z h136 ob "quorumkeep/store/Messages$Reader" "held" "I" (.int (0 : Int32)) := ((bt129 ((F_held.other W2 (Or.inr (slot_ne (a0 := a0) (Or.inl (hw _ (List.mem_of_getElem? (i := 49) rfl))) (Or.inl (hw _ (List.mem_of_getElem? (i := 51) rfl))) (by decide) (t := .int) (t' := .int) (by decide) (by decide)))).other W8 (Or.inr (slot_ne (a0 := a0) (Or.inl (hw _ (List.mem_of_getElem? (i := 49) rfl))) (Or.inl (hw _ (List.mem_of_getElem? (i := 54) rfl))) (by decide) (t := .int) (t' := .int) (by decide) (by decide)))) (slot_ne (a0 := a0) (Or.inl (hw _ (List.mem_of_getElem? (i := 49) rfl))) (Or.inl (hw _ (List.mem_of_getElem? (i := 18) rfl))) (by decide) (t := .int) (t' := (.array .byte)) (by decide) (by decide)) (slot_ne (a0 := a0) (Or.inl (hw _ (List.mem_of_getElem? (i := 49) rfl))) (Or.inl (hw _ (List.mem_of_getElem? (i := 51) rfl))) (by decide) (t := .int) (t' := .int) (by decide) (by decide))).other W136 (Or.inr (slot_ne (a0 := a0) (Or.inl (hw _ (List.mem_of_getElem? (i := 49) rfl))) (Or.inl (hw _ (List.mem_of_getElem? (i := 37) rfl))) (by decide) (t := .int) (t' := .int) (by decide) (by decide))))
    have c147 : Fld Z h136 ob "quorumkeep/store/Messages$Reader" "line" "[B" (.ref l2129) := (Fl129.other W136 (Or.inr (slot_ne (a0 := a0) (Or.inl (hw _ (List.mem_of_getElem? (i := 18) rfl))) (Or.inl (hw _ (List.mem_of_getElem? (i := 37) rfl))) (by decide) (t := (.array .byte)) (t' := .int) (by decide) (by decide))))
    have c148 : Arv Z h136 l2129 k2129 .byte ((0 : Int32) + (z - s)) v2129 (.int (0 : Int32)) := (Vl129.other W136 (Ne.symm ne_ol129))
    have c149 : Exa Z h136 l2129 "[B" := (El129.wr W136)
    obtain ⟨cq150, q150, q150'⟩ := c142.cell
    obtain ⟨_, _, ⟨T150, L150, k150, n150⟩, -, X150, ⟨Lc150, hQ150, l150, y150, z150⟩, st150⟩ := X145.privateBack hx (y := (⟨"quorumkeep/store/Messages$Reader", "message", "(I)[B"⟩ : MethodName)) hown (mvT hZ (hw _ (List.mem_of_getElem? (i := 101) rfl))) (mvT hZ (hw _ (List.mem_of_getElem? (i := 102) rfl))) (mvT hZ (own_selects_private (hw _ (List.mem_of_getElem? (i := 7) rfl)) (hw _ (List.mem_of_getElem? (i := 103) rfl)) (hw _ (List.mem_of_getElem? (i := 102) rfl)))) (Cond.privateMethod_at (mvP hZ (hw _ (List.mem_of_getElem? (i := 103) rfl)) (args := #[]))) (mvT hZ (hw _ (List.mem_of_getElem? (i := 104) rfl))) (by decide) (backOf (W := 0) (rmmsg l Z a0 hw [] ob ((0 : Int32) + (z - s)) l2129 k2129 v2129 (.int (0 : Int32)) h136 n0 Z137 c146 c147 c148 c149 (own_k9 hB)) hZ (hw _ (List.mem_of_getElem? (i := 104) rfl)) (hw _ (List.mem_of_getElem? (i := 8) rfl)) (by decide) (by decide)) (g := (mkF m 210 #[.val (.ref ob), .val (.int z), .unset] [(.int ((0 : Int32) + (z - s))), (.ref ob)])) rfl (by rw [hml]; rfl) (Steps.refl _) (a := ob) (by rw [e145]; exact q150) q150' (argsL := [(.int ((0 : Int32) + (z - s)))]) (rest := []) (lenOf pd_8 rfl) rfl (by show 2 * 0 + _ ≤ _; exact Nat.le_of_eq rfl) (hb hby d5_210) (fun _ _ => ⟨rfl, e145, (by decide : 1 + 1 ≤ _), (by decide : 4 + 4 ≤ _)⟩)
    dsimp only [Pt.U, Pt.locs, Pt.cells, Pt.slots] at X150 l150 y150 z150 st150 hQ150
    subst l150 y150 z150
    obtain ⟨x150, rfl, Nq150, Kq150⟩ := hQ150
    have N150 := Fr.app N141 Nq150
    have Z151 : n0 ≤ T150.heap.size := Nat.le_trans Z137 Kq150.1
    have K152 : Keep h0 T150.heap [ob] := K136.trans Kq150 all0
    have pre153 : ∀ t, Steps p.tables e below (T150.setTop (mkF m 213 #[.val (.ref ob), .val (.int z), .unset] [(.ref x150)])) t → Steps p.tables e below (s₁.setTop (entryFrame m #[(.ref ob)] 3)) t := fun t k => by
      refine pre13 t ?_
      show Steps p.tables e below (T13.setTop (mkF m 57 #[.val (.ref ob), .val (.int z), .unset] [])) _
      refine XS.iloadN X13.here hx rfl (hb hby d5_57) rfl ?_
      show Steps p.tables e below (T13.setTop (mkF m 58 #[.val (.ref ob), .val (.int z), .unset] [(.int z)])) _
      refine XS.aloadN X13.here hx rfl (hb hby d5_58) rfl rfl ?_
      show Steps p.tables e below (T13.setTop (mkF m 59 #[.val (.ref ob), .val (.int z), .unset] [(.ref ob), (.int z)])) _
      refine st122 _ ?_
      show Steps p.tables e below (T122.setTop (mkF m 62 #[.val (.ref ob), .val (.int z), .unset] [(.int z), (.int z)])) _
      refine XS.icmpYes X122.here hx rfl (pc0 := 62) (pc' := 118) rfl (hb hby d5_62) rfl (flt (Int32.lt_irrefl : ¬ (z < z))).2.1 (by decide) (by decide) ?_
      show Steps p.tables e below (T122.setTop (mkF m 118 #[.val (.ref ob), .val (.int z), .unset] [])) _
      refine XS.aloadN X122.here hx rfl (hb hby d5_118) rfl rfl ?_
      show Steps p.tables e below (T122.setTop (mkF m 119 #[.val (.ref ob), .val (.int z), .unset] [(.ref ob)])) _
      refine XS.iloadN X122.here hx rfl (hb hby d5_119) rfl ?_
      show Steps p.tables e below (T122.setTop (mkF m 120 #[.val (.ref ob), .val (.int z), .unset] [(.int z), (.ref ob)])) _
      refine st129.trans ?_
      show Steps p.tables e below (T129.setTop (mkF m 123 #[.val (.ref ob), .val (.int z), .unset] [])) _
      refine XS.iloadN X129.here hx rfl (hb hby d5_123) rfl ?_
      show Steps p.tables e below (T129.setTop (mkF m 124 #[.val (.ref ob), .val (.int z), .unset] [(.int z)])) _
      refine XS.aloadN X129.here hx rfl (hb hby d5_124) rfl rfl ?_
      show Steps p.tables e below (T129.setTop (mkF m 125 #[.val (.ref ob), .val (.int z), .unset] [(.ref ob), (.int z)])) _
      refine st133 _ ?_
      show Steps p.tables e below (T133.setTop (mkF m 128 #[.val (.ref ob), .val (.int z), .unset] [(.int z), (.int z)])) _
      refine XS.icmpYes X133.here hx rfl (pc0 := 128) (pc' := 179) rfl (hb hby d5_128) rfl (flt (Int32.lt_irrefl : ¬ (z < z))).2.1 (by decide) (by decide) ?_
      show Steps p.tables e below (T133.setTop (mkF m 179 #[.val (.ref ob), .val (.int z), .unset] [])) _
      refine XS.aloadN X133.here hx rfl (hb hby d5_179) rfl rfl ?_
      show Steps p.tables e below (T133.setTop (mkF m 180 #[.val (.ref ob), .val (.int z), .unset] [(.ref ob)])) _
      refine XS.aloadN X133.here hx rfl (hb hby d5_180) rfl rfl ?_
      show Steps p.tables e below (T133.setTop (mkF m 181 #[.val (.ref ob), .val (.int z), .unset] [(.ref ob), (.ref ob)])) _
      refine st134 _ ?_
      show Steps p.tables e below (T134.setTop (mkF m 184 #[.val (.ref ob), .val (.int z), .unset] [(.int z), (.ref ob)])) _
      refine st136 _ ?_
      show Steps p.tables e below (T136.setTop (mkF m 187 #[.val (.ref ob), .val (.int z), .unset] [])) _
      refine XS.aloadN X136.here hx rfl (hb hby d5_187) rfl rfl ?_
      show Steps p.tables e below (T136.setTop (mkF m 188 #[.val (.ref ob), .val (.int z), .unset] [(.ref ob)])) _
      refine st141.trans ?_
      show Steps p.tables e below (T141.setTop (mkF m 191 #[.val (.ref ob), .val (.int z), .unset] [(.int (0 : Int32))])) _
      refine XS.ifNo X141.here hx rfl (hb hby d5_191) rfl ((if0 _ _).trans (teq (by decide : (0 : Int32) = (0 : Int32))).2) ?_
      show Steps p.tables e below (T141.setTop (mkF m 194 #[.val (.ref ob), .val (.int z), .unset] [])) _
      refine XS.aloadN X141.here hx rfl (hb hby d5_194) rfl rfl ?_
      show Steps p.tables e below (T141.setTop (mkF m 195 #[.val (.ref ob), .val (.int z), .unset] [(.ref ob)])) _
      refine st144 _ ?_
      show Steps p.tables e below (T144.setTop (mkF m 198 #[.val (.ref ob), .val (.int z), .unset] [(.int ((0 : Int32) + (z - s)))])) _
      refine XS.ifYes X144.here hx rfl (pc0 := 198) (pc' := 205) rfl (hb hby d5_198) rfl ((if0 _ _).trans (feq (own_k10 hB : ¬ (((0 : Int32) + (z - s)) = (0 : Int32)))).2) (by decide) (by decide) ?_
      show Steps p.tables e below (T144.setTop (mkF m 205 #[.val (.ref ob), .val (.int z), .unset] [])) _
      refine XS.aloadN X144.here hx rfl (hb hby d5_205) rfl rfl ?_
      show Steps p.tables e below (T144.setTop (mkF m 206 #[.val (.ref ob), .val (.int z), .unset] [(.ref ob)])) _
      refine XS.aloadN X144.here hx rfl (hb hby d5_206) rfl rfl ?_
      show Steps p.tables e below (T144.setTop (mkF m 207 #[.val (.ref ob), .val (.int z), .unset] [(.ref ob), (.ref ob)])) _
      refine st145 _ ?_
      show Steps p.tables e below (T145.setTop (mkF m 210 #[.val (.ref ob), .val (.int z), .unset] [(.int ((0 : Int32) + (z - s))), (.ref ob)])) _
      refine st150.trans ?_
      exact k
    obtain ⟨fs, hrq, hrun, hended, hW, hsame⟩ := X150.leave (v := some (.ref x150)) (fun h => by rw [Bd.returns] at h; cases h)
    refine ⟨_, _, pre153 _ ?_, hrun, hended, _, _, rfl, ?_, ⟨_, rfl⟩, hW, hsame.mono (by decide) (by decide)⟩
    · show Steps p.tables e below (T150.setTop (mkF m 213 #[.val (.ref ob), .val (.int z), .unset] [(.ref x150)])) _
      exact retOut X150 hx Bd.returns rfl (Or.inr (Or.inr (Or.inr (Or.inr ⟨rfl, rfl, rfl⟩)))) (hb hby d5_213) hrq
    · show QnextY Z ob ar kk z vs dv ln kl s h0 n0 _ T150.heap _
      have c154 : Exa Z T150.heap ob "quorumkeep/store/Messages$Reader" := (c142.keep Kq150)
      have c155 : Fld Z T150.heap ob "quorumkeep/store/Messages$Reader" "line" "[B" (.ref l2129) := (c147.keep Kq150 nin0)
      have c156 : Fld Z T150.heap ob "quorumkeep/store/Messages$Reader" "length" "J" (.long (z.toInt64)) := (c140.keep Kq150 nin0)
      have c157 : Fld Z T150.heap ob "quorumkeep/store/Messages$Reader" "budget" "Lquorumkeep/base/HeapBudget;" .null := (((bt129 (c4.other W8 (Or.inr (slot_ne (a0 := a0) (Or.inr (hw _ (List.mem_of_getElem? (i := 24) rfl))) (Or.inl (hw _ (List.mem_of_getElem? (i := 54) rfl))) (by decide) (t := (.object "quorumkeep/base/HeapBudget")) (t' := .int) (by decide) (by decide)))) (slot_ne (a0 := a0) (Or.inr (hw _ (List.mem_of_getElem? (i := 24) rfl))) (Or.inl (hw _ (List.mem_of_getElem? (i := 18) rfl))) (by decide) (t := (.object "quorumkeep/base/HeapBudget")) (t' := (.array .byte)) (by decide) (by decide)) (slot_ne (a0 := a0) (Or.inr (hw _ (List.mem_of_getElem? (i := 24) rfl))) (Or.inl (hw _ (List.mem_of_getElem? (i := 51) rfl))) (by decide) (t := (.object "quorumkeep/base/HeapBudget")) (t' := .int) (by decide) (by decide))).other W136 (Or.inr (slot_ne (a0 := a0) (Or.inr (hw _ (List.mem_of_getElem? (i := 24) rfl))) (Or.inl (hw _ (List.mem_of_getElem? (i := 37) rfl))) (by decide) (t := (.object "quorumkeep/base/HeapBudget")) (t' := .int) (by decide) (by decide)))).keep Kq150 nin0)
      have c158 : Fld Z T150.heap ob "quorumkeep/store/Messages$Reader" "buffer" "[B" (.ref ar) := (((bt129 c126 (slot_ne (a0 := a0) (Or.inr (hw _ (List.mem_of_getElem? (i := 26) rfl))) (Or.inl (hw _ (List.mem_of_getElem? (i := 18) rfl))) (by decide) (t := (.array .byte)) (t' := (.array .byte)) (by decide) (by decide)) (slot_ne (a0 := a0) (Or.inr (hw _ (List.mem_of_getElem? (i := 26) rfl))) (Or.inl (hw _ (List.mem_of_getElem? (i := 51) rfl))) (by decide) (t := (.array .byte)) (t' := .int) (by decide) (by decide))).other W136 (Or.inr (slot_ne (a0 := a0) (Or.inr (hw _ (List.mem_of_getElem? (i := 26) rfl))) (Or.inl (hw _ (List.mem_of_getElem? (i := 37) rfl))) (by decide) (t := (.array .byte)) (t' := .int) (by decide) (by decide)))).keep Kq150 nin0)
      have c159 : Fld Z T150.heap ob "quorumkeep/store/Messages$Reader" "end" "I" (.int z) := ((c132.other W136 (Or.inr (slot_ne (a0 := a0) (Or.inl (hw _ (List.mem_of_getElem? (i := 28) rfl))) (Or.inl (hw _ (List.mem_of_getElem? (i := 37) rfl))) (by decide) (t := .int) (t' := .int) (by decide) (by decide)))).keep Kq150 nin0)
      have c160 : Fld Z T150.heap ob "quorumkeep/store/Messages$Reader" "read" "J" (.long (z.toInt64)) := (c139.keep Kq150 nin0)
      have c161 : Fld Z T150.heap ob "quorumkeep/store/Messages$Reader" "start" "I" (.int z) := (Fw136.keep Kq150 nin0)
      have c162 : Fld Z T150.heap ob "quorumkeep/store/Messages$Reader" "held" "I" (.int (0 : Int32)) := (c146.keep Kq150 nin0)
      have c163 : Fld Z T150.heap ob "quorumkeep/store/Messages$Reader" "atEnd" "Z" (.int (0 : Int32)) := (c138.keep Kq150 nin0)
      have c164 : Fld Z T150.heap ob "quorumkeep/store/Messages$Reader" "size" "I" (.int ((0 : Int32) + (z - s))) := (c143.keep Kq150 nin0)
      have c165 : Fld Z T150.heap ob "quorumkeep/store/Messages$Reader" "keepable" "I" (.int (4194306 : Int32)) := (((bt129 Fw8 (slot_ne (a0 := a0) (Or.inl (hw _ (List.mem_of_getElem? (i := 54) rfl))) (Or.inl (hw _ (List.mem_of_getElem? (i := 18) rfl))) (by decide) (t := .int) (t' := (.array .byte)) (by decide) (by decide)) (slot_ne (a0 := a0) (Or.inl (hw _ (List.mem_of_getElem? (i := 54) rfl))) (Or.inl (hw _ (List.mem_of_getElem? (i := 51) rfl))) (by decide) (t := .int) (t' := .int) (by decide) (by decide))).other W136 (Or.inr (slot_ne (a0 := a0) (Or.inl (hw _ (List.mem_of_getElem? (i := 54) rfl))) (Or.inl (hw _ (List.mem_of_getElem? (i := 37) rfl))) (by decide) (t := .int) (t' := .int) (by decide) (by decide)))).keep Kq150 nin0)
      exact ⟨_, rfl, N150, K152, ⟨l2129, ⟨c154, c155, c156, c157, c158, c159, c160, (by rw [hA]; exact c161), c162, c163, ⟨_, c164⟩, ⟨_, c165⟩⟩, fun h => absurd h (by rw [hA]; exact Int32.lt_irrefl)⟩⟩
theorem d5_201 : decode prog_163_method_4_code 201 = .ok (.aconst_null, 1) := by decide +kernel
theorem d5_202 : decode prog_163_method_4_code 202 = .ok (.goto 11, 3) := by decide +kernel
theorem ef_rmnextN (m : MethodId) (x0 : Addr) : entryFrame m #[(.ref x0)] 3 = mkF m 0 #[.val (.ref x0), .unset, .unset] [] := by first | (simp [entryFrame, mkF, argsToLocals, Value.category]; done) | rfl
def QnextN (Z : State) (ob : Addr) (ar : Addr) (z : Int32) (vs : List Value) (dv : Value) (ln : Addr) (s : Int32) (h0 : Heap) (n0 : Nat) (v : Option Value) (h : Heap) (L : List Loc) : Prop := v = some .null ∧ Fr n0 L ∧ Keep h0 h [ob] ∧ own_rd Z h ob ar z (own_after vs dv z s) ln
set_option maxRecDepth 65536 in
set_option maxHeartbeats 40000000 in
theorem rmnextN (l : Launch) (Z : State) (a0 : Array Value) (hw : ∀ d ∈ tables_1, d.before a0 Z = true) (ws : List Jvm.Cond) (ob : Addr) (ar : Addr) (z : Int32) (vs : List Value) (dv : Value) (ln : Addr) (s : Int32) (h0 : Heap) (n0 : Nat) (Z0 : n0 ≤ h0.size) (RD : own_rd Z h0 ob ar z z ln) (hA : own_after vs dv z s = z) (g_ob : n0 ≤ ob) :
    MetFree l (⟨"quorumkeep/store/Messages$Reader", "next", "()[B"⟩ : MethodName) (head1 (Jvm.Cond.code (⟨"quorumkeep/store/Messages$Reader", "next", "()[B"⟩ : MethodName) prog_163_method_4_code 3 (some (.array .byte)) :: ws) ({ frames := 2, cells := 0, slots := 0, locals := 27 } : Room)) (fun a U => a = #[(.ref ob)] ∧ Z.Warmed39 U.vm ∧ U.heap = h0) (fun _ _ _ _ _ => True) (fun _ U o U' => ∃ v L, o = .returned v ∧ QnextN Z ob ar z vs dv ln s h0 n0 v U'.heap L ∧ FrameEnd U o U' L ({ frames := 2, cells := 0, slots := 0, locals := 27 } : Room).cells ({ frames := 2, cells := 0, slots := 0, locals := 27 } : Room).slots) := by
  refine MetFree.of_bodySF (plainFor_of_name pn_1) hisR ?_
  intro p e s0 m args below meth c s₁ Bd hml0 hP hK
  obtain ⟨rfl, hZ, hh⟩ := hP
  have hx := Bd.exec
  have hby := Bd.bytes
  have hml : c.maxLocals = 3 := hml0
  have hown : s0.vm.findClass "quorumkeep/store/Messages$Reader" = some m.cls := findClass_of_methodNamed Bd.named
  have hnm := (name_of_methodNamed Bd.named Bd.method).1
  have X0 : Stand p l e ({ frames := 2, cells := 0, slots := 0, locals := 27 } : Room) s0 m #[(.ref ob)] below meth c s₁ [] 0 0 := Stand.of_body Bd
  have e0 : s₁.heap = h0 := by rw [← hh, Bd.state]; rfl
  have N0 := Fr.nil n0
  have pre0 : ∀ t, Steps p.tables e below (s₁.setTop (mkF m 0 #[.val (.ref ob), .unset, .unset] [])) t → Steps p.tables e below (s₁.setTop (entryFrame m #[(.ref ob)] 3)) t := fun t k => castTop (ef_rmnextN m ob) k
  have rdc := RD
  obtain ⟨E_ob, F_line, F_length, F_budget, F_buffer, F_end, F_read, F_start, F_held, F_atEnd, ⟨u_size, F_size⟩, ⟨u_keep, F_keepable⟩⟩ := rdc
  obtain ⟨cq1, kq1, q1a, q1b, q1c⟩ := isOf hZ e0 E_ob
  obtain ⟨_, _, ⟨T1, L1, k1, n1⟩, -, X1, ⟨Lc1, hQ1, l1, y1, z1⟩, st1⟩ := X0.virtualBack hx (y := (⟨"quorumkeep/store/Messages$Reader", "release", "()V"⟩ : MethodName)) (z := (⟨"quorumkeep/store/Messages$Reader", "release", "()V"⟩ : MethodName)) hown (mvT hZ (hw _ (List.mem_of_getElem? (i := 43) rfl))) (mvT hZ (hw _ (List.mem_of_getElem? (i := 44) rfl))) (notFace_of_selects (args := #[]) (mvT hZ (hw _ (List.mem_of_getElem? (i := 46) rfl)))) (mvT hZ (hw _ (List.mem_of_getElem? (i := 46) rfl))) (mvT hZ (hw _ (List.mem_of_getElem? (i := 45) rfl))) (by decide) (backOf (W := 0) (rmrel l Z a0 hw [] ob h0 n0 Z0 F_held) hZ (hw _ (List.mem_of_getElem? (i := 47) rfl)) (hw _ (List.mem_of_getElem? (i := 8) rfl)) (by decide) (by decide)) q1a q1c (g := (mkF m 1 #[.val (.ref ob), .unset, .unset] [(.ref ob)])) rfl (by rw [hml]; rfl) (Steps.refl _) (argsL := []) (rest := []) (lenOf pd_6 rfl) rfl (by show 2 * 0 + _ ≤ _; exact Nat.le_of_eq rfl) (hb hby d5_1) (fun _ _ => ⟨rfl, e0, (by decide : 0 + 0 ≤ _), (by decide : 0 + 0 ≤ _)⟩)
  dsimp only [Pt.U, Pt.locs, Pt.cells, Pt.slots] at X1 l1 y1 z1 st1 hQ1
  subst l1 y1 z1
  obtain ⟨rfl, Nq1, hh1⟩ := hQ1
  have N1 := Fr.app N0 Nq1
  have e1 : T1.heap = h0 := hh1
  obtain ⟨T2, h2, X2, e2, W2, st2⟩ := putF X1 hx hZ hown (host := "") (Or.inl (hw _ (List.mem_of_getElem? (i := 50) rfl))) Via.refl e1 F_size E_ob (Or.inl (hw _ (List.mem_of_getElem? (i := 51) rfl))) (hw _ (List.mem_of_getElem? (i := 7) rfl)) (ty := .int) (by decide) rfl rfl (g := (mkF m 6 #[.val (.ref ob), .unset, .unset] [(.int (0 : Int32)), (.ref ob)])) rfl rfl (hb hby d5_6)
  have Fw2 : Fld Z h2 ob "quorumkeep/store/Messages$Reader" "size" "I" (.int (0 : Int32)) := F_size.same W2
  have Z3 : n0 ≤ h2.size := Nat.le_trans Z0 (Keep.of_wr W2).1
  have K2 : Keep h0 h2 [ob] := (Keep.refl h0 [ob]).wr W2 (Or.inl (List.mem_of_getElem? (i := 0) rfl))
  have N2 := Fr.snoc X2 N1 g_ob
  have c4 : Fld Z h2 ob "quorumkeep/store/Messages$Reader" "budget" "Lquorumkeep/base/HeapBudget;" .null := (F_budget.other W2 (Or.inr (slot_ne (a0 := a0) (Or.inr (hw _ (List.mem_of_getElem? (i := 24) rfl))) (Or.inl (hw _ (List.mem_of_getElem? (i := 51) rfl))) (by decide) (t := (.object "quorumkeep/base/HeapBudget")) (t' := .int) (by decide) (by decide))))
  obtain ⟨T5, X5, e5, st5⟩ := getF X2 hx hZ hown (host := "") (Or.inl (hw _ (List.mem_of_getElem? (i := 23) rfl))) Via.refl e2 c4 (g := (mkF m 11 #[.val (.ref ob), .unset, .unset] [(.ref ob), (.ref ob)])) rfl rfl (hb hby d5_11)
  have c6 : Exa Z h2 ob "quorumkeep/store/Messages$Reader" := (E_ob.wr W2)
  have c7 : Fld Z h2 ob "quorumkeep/store/Messages$Reader" "keepable" "I" (.int u_keep) := (F_keepable.other W2 (Or.inr (slot_ne (a0 := a0) (Or.inl (hw _ (List.mem_of_getElem? (i := 54) rfl))) (Or.inl (hw _ (List.mem_of_getElem? (i := 51) rfl))) (by decide) (t := .int) (t' := .int) (by decide) (by decide))))
  obtain ⟨T8, h8, X8, e8, W8, st8⟩ := putF X5 hx hZ hown (host := "") (Or.inl (hw _ (List.mem_of_getElem? (i := 53) rfl))) Via.refl e5 c7 c6 (Or.inl (hw _ (List.mem_of_getElem? (i := 54) rfl))) (hw _ (List.mem_of_getElem? (i := 7) rfl)) (ty := .int) (by decide) rfl rfl (g := (mkF m 24 #[.val (.ref ob), .unset, .unset] [(.int (4194306 : Int32)), (.ref ob)])) rfl rfl (hb hby d5_24)
  have Fw8 : Fld Z h8 ob "quorumkeep/store/Messages$Reader" "keepable" "I" (.int (4194306 : Int32)) := c7.same W8
  have Z9 : n0 ≤ h8.size := Nat.le_trans Z3 (Keep.of_wr W8).1
  have K8 : Keep h0 h8 [ob] := K2.wr W8 (Or.inl (List.mem_of_getElem? (i := 0) rfl))
  have N8 := Fr.snoc X8 N2 g_ob
  have c10 : Fld Z h8 ob "quorumkeep/store/Messages$Reader" "start" "I" (.int z) := ((F_start.other W2 (Or.inr (slot_ne (a0 := a0) (Or.inl (hw _ (List.mem_of_getElem? (i := 37) rfl))) (Or.inl (hw _ (List.mem_of_getElem? (i := 51) rfl))) (by decide) (t := .int) (t' := .int) (by decide) (by decide)))).other W8 (Or.inr (slot_ne (a0 := a0) (Or.inl (hw _ (List.mem_of_getElem? (i := 37) rfl))) (Or.inl (hw _ (List.mem_of_getElem? (i := 54) rfl))) (by decide) (t := .int) (t' := .int) (by decide) (by decide))))
  obtain ⟨T11, X11, e11, st11⟩ := getF X8 hx hZ hown (host := "") (Or.inl (hw _ (List.mem_of_getElem? (i := 36) rfl))) Via.refl e8 c10 (g := (mkF m 28 #[.val (.ref ob), .unset, .unset] [(.ref ob)])) rfl rfl (hb hby d5_28)
  have c12 : Fld Z h8 ob "quorumkeep/store/Messages$Reader" "end" "I" (.int z) := ((F_end.other W2 (Or.inr (slot_ne (a0 := a0) (Or.inl (hw _ (List.mem_of_getElem? (i := 28) rfl))) (Or.inl (hw _ (List.mem_of_getElem? (i := 51) rfl))) (by decide) (t := .int) (t' := .int) (by decide) (by decide)))).other W8 (Or.inr (slot_ne (a0 := a0) (Or.inl (hw _ (List.mem_of_getElem? (i := 28) rfl))) (Or.inl (hw _ (List.mem_of_getElem? (i := 54) rfl))) (by decide) (t := .int) (t' := .int) (by decide) (by decide))))
  obtain ⟨T13, X13, e13, st13⟩ := getF X11 hx hZ hown (host := "") (Or.inl (hw _ (List.mem_of_getElem? (i := 27) rfl))) Via.refl e11 c12 (g := (mkF m 34 #[.val (.ref ob), .val (.int z), .unset] [(.ref ob), (.int z)])) rfl rfl (hb hby d5_34)
  obtain ⟨T14, X14, e14, st14⟩ := getF X13 hx hZ hown (host := "") (Or.inl (hw _ (List.mem_of_getElem? (i := 27) rfl))) Via.refl e13 c12 (g := (mkF m 59 #[.val (.ref ob), .val (.int z), .unset] [(.ref ob), (.int z)])) rfl rfl (hb hby d5_59)
  have c15 : Fld Z h8 ob "quorumkeep/store/Messages$Reader" "size" "I" (.int (0 : Int32)) := (Fw2.other W8 (Or.inr (slot_ne (a0 := a0) (Or.inl (hw _ (List.mem_of_getElem? (i := 51) rfl))) (Or.inl (hw _ (List.mem_of_getElem? (i := 54) rfl))) (by decide) (t := .int) (t' := .int) (by decide) (by decide))))
  have c17 : Exa Z h8 ob "quorumkeep/store/Messages$Reader" := (c6.wr W8)
  obtain ⟨cq16, q16, q16'⟩ := c17.cell
  obtain ⟨_, _, ⟨T16, L16, k16, n16⟩, -, X16, ⟨Lc16, hQ16, l16, y16, z16⟩, st16⟩ := X14.privateBack hx (y := (⟨"quorumkeep/store/Messages$Reader", "keep", "(I)V"⟩ : MethodName)) hown (mvT hZ (hw _ (List.mem_of_getElem? (i := 55) rfl))) (mvT hZ (hw _ (List.mem_of_getElem? (i := 56) rfl))) (mvT hZ (own_selects_private (hw _ (List.mem_of_getElem? (i := 7) rfl)) (hw _ (List.mem_of_getElem? (i := 57) rfl)) (hw _ (List.mem_of_getElem? (i := 56) rfl)))) (Cond.privateMethod_at (mvP hZ (hw _ (List.mem_of_getElem? (i := 57) rfl)) (args := #[]))) (mvT hZ (hw _ (List.mem_of_getElem? (i := 58) rfl))) (by decide) (backOf (W := 0) (rmkeep0 l Z a0 hw [] ob z h8 n0 Z9 c10 c15) hZ (hw _ (List.mem_of_getElem? (i := 58) rfl)) (hw _ (List.mem_of_getElem? (i := 8) rfl)) (by decide) (by decide)) (g := (mkF m 120 #[.val (.ref ob), .val (.int z), .unset] [(.int z), (.ref ob)])) rfl (by rw [hml]; rfl) (Steps.refl _) (a := ob) (by rw [e14]; exact q16) q16' (argsL := [(.int z)]) (rest := []) (lenOf pd_5 rfl) rfl (by show 2 * 0 + _ ≤ _; exact Nat.le_of_eq rfl) (hb hby d5_120) (fun _ _ => ⟨rfl, e14, (by decide : 0 + 0 ≤ _), (by decide : 0 + 0 ≤ _)⟩)
  dsimp only [Pt.U, Pt.locs, Pt.cells, Pt.slots] at X16 l16 y16 z16 st16 hQ16
  subst l16 y16 z16
  obtain ⟨rfl, Nq16, hh16⟩ := hQ16
  have N16 := Fr.app N8 Nq16
  have e16 : T16.heap = h8 := hh16
  obtain ⟨T18, X18, e18, st18⟩ := getF X16 hx hZ hown (host := "") (Or.inl (hw _ (List.mem_of_getElem? (i := 27) rfl))) Via.refl e16 c12 (g := (mkF m 125 #[.val (.ref ob), .val (.int z), .unset] [(.ref ob), (.int z)])) rfl rfl (hb hby d5_125)
  obtain ⟨T19, X19, e19, st19⟩ := getF X18 hx hZ hown (host := "") (Or.inl (hw _ (List.mem_of_getElem? (i := 27) rfl))) Via.refl e18 c12 (g := (mkF m 181 #[.val (.ref ob), .val (.int z), .unset] [(.ref ob), (.ref ob)])) rfl rfl (hb hby d5_181)
  obtain ⟨T20, h20, X20, e20, W20, st20⟩ := putF X19 hx hZ hown (host := "") (Or.inl (hw _ (List.mem_of_getElem? (i := 36) rfl))) Via.refl e19 c10 c17 (Or.inl (hw _ (List.mem_of_getElem? (i := 37) rfl))) (hw _ (List.mem_of_getElem? (i := 7) rfl)) (ty := .int) (by decide) rfl rfl (g := (mkF m 184 #[.val (.ref ob), .val (.int z), .unset] [(.int z), (.ref ob)])) rfl rfl (hb hby d5_184)
  have Fw20 : Fld Z h20 ob "quorumkeep/store/Messages$Reader" "start" "I" (.int z) := c10.same W20
  have Z21 : n0 ≤ h20.size := Nat.le_trans Z9 (Keep.of_wr W20).1
  have K20 : Keep h0 h20 [ob] := K8.wr W20 (Or.inl (List.mem_of_getElem? (i := 0) rfl))
  have N20 := Fr.snoc X20 N16 g_ob
  have c22 : Fld Z h20 ob "quorumkeep/store/Messages$Reader" "atEnd" "Z" (.int (0 : Int32)) := (((F_atEnd.other W2 (Or.inr (slot_ne (a0 := a0) (Or.inl (hw _ (List.mem_of_getElem? (i := 68) rfl))) (Or.inl (hw _ (List.mem_of_getElem? (i := 51) rfl))) (by decide) (t := .boolean) (t' := .int) (by decide) (by decide)))).other W8 (Or.inr (slot_ne (a0 := a0) (Or.inl (hw _ (List.mem_of_getElem? (i := 68) rfl))) (Or.inl (hw _ (List.mem_of_getElem? (i := 54) rfl))) (by decide) (t := .boolean) (t' := .int) (by decide) (by decide)))).other W20 (Or.inr (slot_ne (a0 := a0) (Or.inl (hw _ (List.mem_of_getElem? (i := 68) rfl))) (Or.inl (hw _ (List.mem_of_getElem? (i := 37) rfl))) (by decide) (t := .boolean) (t' := .int) (by decide) (by decide))))
  have c23 : Fld Z h20 ob "quorumkeep/store/Messages$Reader" "read" "J" (.long (z.toInt64)) := (((F_read.other W2 (Or.inr (slot_ne (a0 := a0) (Or.inl (hw _ (List.mem_of_getElem? (i := 30) rfl))) (Or.inl (hw _ (List.mem_of_getElem? (i := 51) rfl))) (by decide) (t := .long) (t' := .int) (by decide) (by decide)))).other W8 (Or.inr (slot_ne (a0 := a0) (Or.inl (hw _ (List.mem_of_getElem? (i := 30) rfl))) (Or.inl (hw _ (List.mem_of_getElem? (i := 54) rfl))) (by decide) (t := .long) (t' := .int) (by decide) (by decide)))).other W20 (Or.inr (slot_ne (a0 := a0) (Or.inl (hw _ (List.mem_of_getElem? (i := 30) rfl))) (Or.inl (hw _ (List.mem_of_getElem? (i := 37) rfl))) (by decide) (t := .long) (t' := .int) (by decide) (by decide))))
  have c24 : Fld Z h20 ob "quorumkeep/store/Messages$Reader" "length" "J" (.long (z.toInt64)) := (((F_length.other W2 (Or.inr (slot_ne (a0 := a0) (Or.inr (hw _ (List.mem_of_getElem? (i := 22) rfl))) (Or.inl (hw _ (List.mem_of_getElem? (i := 51) rfl))) (by decide) (t := .long) (t' := .int) (by decide) (by decide)))).other W8 (Or.inr (slot_ne (a0 := a0) (Or.inr (hw _ (List.mem_of_getElem? (i := 22) rfl))) (Or.inl (hw _ (List.mem_of_getElem? (i := 54) rfl))) (by decide) (t := .long) (t' := .int) (by decide) (by decide)))).other W20 (Or.inr (slot_ne (a0 := a0) (Or.inr (hw _ (List.mem_of_getElem? (i := 22) rfl))) (Or.inl (hw _ (List.mem_of_getElem? (i := 37) rfl))) (by decide) (t := .long) (t' := .int) (by decide) (by decide))))
  have c26 : Exa Z h20 ob "quorumkeep/store/Messages$Reader" := (c17.wr W20)
  obtain ⟨cq25, q25, q25'⟩ := c26.cell
  obtain ⟨_, _, ⟨T25, L25, k25, n25⟩, -, X25, ⟨Lc25, hQ25, l25, y25, z25⟩, st25⟩ := X20.privateBack hx (y := (⟨"quorumkeep/store/Messages$Reader", "fill", "()Z"⟩ : MethodName)) hown (mvT hZ (hw _ (List.mem_of_getElem? (i := 63) rfl))) (mvT hZ (hw _ (List.mem_of_getElem? (i := 64) rfl))) (mvT hZ (own_selects_private (hw _ (List.mem_of_getElem? (i := 7) rfl)) (hw _ (List.mem_of_getElem? (i := 65) rfl)) (hw _ (List.mem_of_getElem? (i := 64) rfl)))) (Cond.privateMethod_at (mvP hZ (hw _ (List.mem_of_getElem? (i := 65) rfl)) (args := #[]))) (mvT hZ (hw _ (List.mem_of_getElem? (i := 66) rfl))) (by decide) (backOf (W := 0) (rmfill l Z a0 hw [] ob z h20 n0 Z21 c22 c23 c24) hZ (hw _ (List.mem_of_getElem? (i := 66) rfl)) (hw _ (List.mem_of_getElem? (i := 8) rfl)) (by decide) (by decide)) (g := (mkF m 188 #[.val (.ref ob), .val (.int z), .unset] [(.ref ob)])) rfl (by rw [hml]; rfl) (Steps.refl _) (a := ob) (by rw [e20]; exact q25) q25' (argsL := []) (rest := []) (lenOf pd_7 rfl) rfl (by show 2 * 0 + _ ≤ _; exact Nat.le_of_eq rfl) (hb hby d5_188) (fun _ _ => ⟨rfl, e20, (by decide : 0 + 0 ≤ _), (by decide : 0 + 0 ≤ _)⟩)
  dsimp only [Pt.U, Pt.locs, Pt.cells, Pt.slots] at X25 l25 y25 z25 st25 hQ25
  subst l25 y25 z25
  obtain ⟨rfl, Nq25, hh25⟩ := hQ25
  have N25 := Fr.app N20 Nq25
  have e25 : T25.heap = h20 := hh25
  have c27 : Fld Z h20 ob "quorumkeep/store/Messages$Reader" "size" "I" (.int (0 : Int32)) := (c15.other W20 (Or.inr (slot_ne (a0 := a0) (Or.inl (hw _ (List.mem_of_getElem? (i := 51) rfl))) (Or.inl (hw _ (List.mem_of_getElem? (i := 37) rfl))) (by decide) (t := .int) (t' := .int) (by decide) (by decide))))
  obtain ⟨T28, X28, e28, st28⟩ := getF X25 hx hZ hown (host := "") (Or.inl (hw _ (List.mem_of_getElem? (i := 50) rfl))) Via.refl e25 c27 (g := (mkF m 195 #[.val (.ref ob), .val (.int z), .unset] [(.ref ob)])) rfl rfl (hb hby d5_195)
  have pre29 : ∀ t, Steps p.tables e below (T28.setTop (mkF m 213 #[.val (.ref ob), .val (.int z), .unset] [.null])) t → Steps p.tables e below (s₁.setTop (entryFrame m #[(.ref ob)] 3)) t := fun t k => by
    refine pre0 t ?_
    show Steps p.tables e below (s₁.setTop (mkF m 0 #[.val (.ref ob), .unset, .unset] [])) _
    refine XS.aloadN X0.here hx rfl (hb hby d5_0) rfl rfl ?_
    show Steps p.tables e below (s₁.setTop (mkF m 1 #[.val (.ref ob), .unset, .unset] [(.ref ob)])) _
    refine st1.trans ?_
    show Steps p.tables e below (T1.setTop (mkF m 4 #[.val (.ref ob), .unset, .unset] [])) _
    refine XS.aloadN X1.here hx rfl (hb hby d5_4) rfl rfl ?_
    show Steps p.tables e below (T1.setTop (mkF m 5 #[.val (.ref ob), .unset, .unset] [(.ref ob)])) _
    refine XS.iconst X1.here hx rfl (hb hby d5_5) ?_
    show Steps p.tables e below (T1.setTop (mkF m 6 #[.val (.ref ob), .unset, .unset] [(.int (0 : Int32)), (.ref ob)])) _
    refine st2 _ ?_
    show Steps p.tables e below (T2.setTop (mkF m 9 #[.val (.ref ob), .unset, .unset] [])) _
    refine XS.aloadN X2.here hx rfl (hb hby d5_9) rfl rfl ?_
    show Steps p.tables e below (T2.setTop (mkF m 10 #[.val (.ref ob), .unset, .unset] [(.ref ob)])) _
    refine XS.aloadN X2.here hx rfl (hb hby d5_10) rfl rfl ?_
    show Steps p.tables e below (T2.setTop (mkF m 11 #[.val (.ref ob), .unset, .unset] [(.ref ob), (.ref ob)])) _
    refine st5 _ ?_
    show Steps p.tables e below (T5.setTop (mkF m 14 #[.val (.ref ob), .unset, .unset] [.null, (.ref ob)])) _
    refine XS.ifnonnullNo X5.here hx rfl (hb hby d5_14) rfl ?_
    show Steps p.tables e below (T5.setTop (mkF m 17 #[.val (.ref ob), .unset, .unset] [(.ref ob)])) _
    refine X5.ldcInt hx hown (mvT hZ (hw _ (List.mem_of_getElem? (i := 52) rfl))) (g := (mkF m 17 #[.val (.ref ob), .unset, .unset] [(.ref ob)])) rfl (hb hby d5_17) _ ?_
    show Steps p.tables e below (T5.setTop (mkF m 19 #[.val (.ref ob), .unset, .unset] [(.int (4194306 : Int32)), (.ref ob)])) _
    refine XS.goto X5.here hx rfl (pc0 := 19) (pc' := 24) rfl (hb hby d5_19) (by decide) (by decide) ?_
    show Steps p.tables e below (T5.setTop (mkF m 24 #[.val (.ref ob), .unset, .unset] [(.int (4194306 : Int32)), (.ref ob)])) _
    refine st8 _ ?_
    show Steps p.tables e below (T8.setTop (mkF m 27 #[.val (.ref ob), .unset, .unset] [])) _
    refine XS.aloadN X8.here hx rfl (hb hby d5_27) rfl rfl ?_
    show Steps p.tables e below (T8.setTop (mkF m 28 #[.val (.ref ob), .unset, .unset] [(.ref ob)])) _
    refine st11 _ ?_
    show Steps p.tables e below (T11.setTop (mkF m 31 #[.val (.ref ob), .unset, .unset] [(.int z)])) _
    refine XS.istoreN X11.here hx rfl (hb hby d5_31) rfl (l' := #[.val (.ref ob), .val (.int z), .unset]) rfl ?_
    show Steps p.tables e below (T11.setTop (mkF m 32 #[.val (.ref ob), .val (.int z), .unset] [])) _
    refine XS.iloadN X11.here hx rfl (hb hby d5_32) rfl ?_
    show Steps p.tables e below (T11.setTop (mkF m 33 #[.val (.ref ob), .val (.int z), .unset] [(.int z)])) _
    refine XS.aloadN X11.here hx rfl (hb hby d5_33) rfl rfl ?_
    show Steps p.tables e below (T11.setTop (mkF m 34 #[.val (.ref ob), .val (.int z), .unset] [(.ref ob), (.int z)])) _
    refine st13 _ ?_
    show Steps p.tables e below (T13.setTop (mkF m 37 #[.val (.ref ob), .val (.int z), .unset] [(.int z), (.int z)])) _
    refine XS.icmpYes X13.here hx rfl (pc0 := 37) (pc' := 57) rfl (hb hby d5_37) rfl (flt (Int32.lt_irrefl : ¬ (z < z))).2.1 (by decide) (by decide) ?_
    show Steps p.tables e below (T13.setTop (mkF m 57 #[.val (.ref ob), .val (.int z), .unset] [])) _
    refine XS.iloadN X13.here hx rfl (hb hby d5_57) rfl ?_
    show Steps p.tables e below (T13.setTop (mkF m 58 #[.val (.ref ob), .val (.int z), .unset] [(.int z)])) _
    refine XS.aloadN X13.here hx rfl (hb hby d5_58) rfl rfl ?_
    show Steps p.tables e below (T13.setTop (mkF m 59 #[.val (.ref ob), .val (.int z), .unset] [(.ref ob), (.int z)])) _
    refine st14 _ ?_
    show Steps p.tables e below (T14.setTop (mkF m 62 #[.val (.ref ob), .val (.int z), .unset] [(.int z), (.int z)])) _
    refine XS.icmpYes X14.here hx rfl (pc0 := 62) (pc' := 118) rfl (hb hby d5_62) rfl (flt (Int32.lt_irrefl : ¬ (z < z))).2.1 (by decide) (by decide) ?_
    show Steps p.tables e below (T14.setTop (mkF m 118 #[.val (.ref ob), .val (.int z), .unset] [])) _
    refine XS.aloadN X14.here hx rfl (hb hby d5_118) rfl rfl ?_
    show Steps p.tables e below (T14.setTop (mkF m 119 #[.val (.ref ob), .val (.int z), .unset] [(.ref ob)])) _
    refine XS.iloadN X14.here hx rfl (hb hby d5_119) rfl ?_
    show Steps p.tables e below (T14.setTop (mkF m 120 #[.val (.ref ob), .val (.int z), .unset] [(.int z), (.ref ob)])) _
    refine st16.trans ?_
    show Steps p.tables e below (T16.setTop (mkF m 123 #[.val (.ref ob), .val (.int z), .unset] [])) _
    refine XS.iloadN X16.here hx rfl (hb hby d5_123) rfl ?_
    show Steps p.tables e below (T16.setTop (mkF m 124 #[.val (.ref ob), .val (.int z), .unset] [(.int z)])) _
    refine XS.aloadN X16.here hx rfl (hb hby d5_124) rfl rfl ?_
    show Steps p.tables e below (T16.setTop (mkF m 125 #[.val (.ref ob), .val (.int z), .unset] [(.ref ob), (.int z)])) _
    refine st18 _ ?_
    show Steps p.tables e below (T18.setTop (mkF m 128 #[.val (.ref ob), .val (.int z), .unset] [(.int z), (.int z)])) _
    refine XS.icmpYes X18.here hx rfl (pc0 := 128) (pc' := 179) rfl (hb hby d5_128) rfl (flt (Int32.lt_irrefl : ¬ (z < z))).2.1 (by decide) (by decide) ?_
    show Steps p.tables e below (T18.setTop (mkF m 179 #[.val (.ref ob), .val (.int z), .unset] [])) _
    refine XS.aloadN X18.here hx rfl (hb hby d5_179) rfl rfl ?_
    show Steps p.tables e below (T18.setTop (mkF m 180 #[.val (.ref ob), .val (.int z), .unset] [(.ref ob)])) _
    refine XS.aloadN X18.here hx rfl (hb hby d5_180) rfl rfl ?_
    show Steps p.tables e below (T18.setTop (mkF m 181 #[.val (.ref ob), .val (.int z), .unset] [(.ref ob), (.ref ob)])) _
    refine st19 _ ?_
    show Steps p.tables e below (T19.setTop (mkF m 184 #[.val (.ref ob), .val (.int z), .unset] [(.int z), (.ref ob)])) _
    refine st20 _ ?_
    show Steps p.tables e below (T20.setTop (mkF m 187 #[.val (.ref ob), .val (.int z), .unset] [])) _
    refine XS.aloadN X20.here hx rfl (hb hby d5_187) rfl rfl ?_
    show Steps p.tables e below (T20.setTop (mkF m 188 #[.val (.ref ob), .val (.int z), .unset] [(.ref ob)])) _
    refine st25.trans ?_
    show Steps p.tables e below (T25.setTop (mkF m 191 #[.val (.ref ob), .val (.int z), .unset] [(.int (0 : Int32))])) _
    refine XS.ifNo X25.here hx rfl (hb hby d5_191) rfl ((if0 _ _).trans (teq (by decide : (0 : Int32) = (0 : Int32))).2) ?_
    show Steps p.tables e below (T25.setTop (mkF m 194 #[.val (.ref ob), .val (.int z), .unset] [])) _
    refine XS.aloadN X25.here hx rfl (hb hby d5_194) rfl rfl ?_
    show Steps p.tables e below (T25.setTop (mkF m 195 #[.val (.ref ob), .val (.int z), .unset] [(.ref ob)])) _
    refine st28 _ ?_
    show Steps p.tables e below (T28.setTop (mkF m 198 #[.val (.ref ob), .val (.int z), .unset] [(.int (0 : Int32))])) _
    refine XS.ifNo X28.here hx rfl (hb hby d5_198) rfl ((if0 _ _).trans (teq (by decide : (0 : Int32) = (0 : Int32))).2) ?_
    show Steps p.tables e below (T28.setTop (mkF m 201 #[.val (.ref ob), .val (.int z), .unset] [])) _
    refine XS.aconstNull X28.here hx rfl (hb hby d5_201) ?_
    show Steps p.tables e below (T28.setTop (mkF m 202 #[.val (.ref ob), .val (.int z), .unset] [.null])) _
    refine XS.goto X28.here hx rfl (pc0 := 202) (pc' := 213) rfl (hb hby d5_202) (by decide) (by decide) ?_
    exact k
  obtain ⟨fs, hrq, hrun, hended, hW, hsame⟩ := X28.leave (v := some .null) (fun h => by rw [Bd.returns] at h; cases h)
  refine ⟨_, _, pre29 _ ?_, hrun, hended, _, _, rfl, ?_, ⟨_, rfl⟩, hW, hsame.mono (by decide) (by decide)⟩
  · show Steps p.tables e below (T28.setTop (mkF m 213 #[.val (.ref ob), .val (.int z), .unset] [.null])) _
    exact retOut X28 hx Bd.returns rfl (Or.inr (Or.inr (Or.inr (Or.inr ⟨rfl, rfl, rfl⟩)))) (hb hby d5_213) hrq
  · show QnextN Z ob ar z vs dv ln s h0 n0 _ T28.heap _
    rw [e28]
    have c30 : Fld Z h20 ob "quorumkeep/store/Messages$Reader" "line" "[B" (.ref ln) := (((F_line.other W2 (Or.inr (slot_ne (a0 := a0) (Or.inl (hw _ (List.mem_of_getElem? (i := 18) rfl))) (Or.inl (hw _ (List.mem_of_getElem? (i := 51) rfl))) (by decide) (t := (.array .byte)) (t' := .int) (by decide) (by decide)))).other W8 (Or.inr (slot_ne (a0 := a0) (Or.inl (hw _ (List.mem_of_getElem? (i := 18) rfl))) (Or.inl (hw _ (List.mem_of_getElem? (i := 54) rfl))) (by decide) (t := (.array .byte)) (t' := .int) (by decide) (by decide)))).other W20 (Or.inr (slot_ne (a0 := a0) (Or.inl (hw _ (List.mem_of_getElem? (i := 18) rfl))) (Or.inl (hw _ (List.mem_of_getElem? (i := 37) rfl))) (by decide) (t := (.array .byte)) (t' := .int) (by decide) (by decide))))
    have c31 : Fld Z h20 ob "quorumkeep/store/Messages$Reader" "budget" "Lquorumkeep/base/HeapBudget;" .null := ((c4.other W8 (Or.inr (slot_ne (a0 := a0) (Or.inr (hw _ (List.mem_of_getElem? (i := 24) rfl))) (Or.inl (hw _ (List.mem_of_getElem? (i := 54) rfl))) (by decide) (t := (.object "quorumkeep/base/HeapBudget")) (t' := .int) (by decide) (by decide)))).other W20 (Or.inr (slot_ne (a0 := a0) (Or.inr (hw _ (List.mem_of_getElem? (i := 24) rfl))) (Or.inl (hw _ (List.mem_of_getElem? (i := 37) rfl))) (by decide) (t := (.object "quorumkeep/base/HeapBudget")) (t' := .int) (by decide) (by decide))))
    have c32 : Fld Z h20 ob "quorumkeep/store/Messages$Reader" "buffer" "[B" (.ref ar) := (((F_buffer.other W2 (Or.inr (slot_ne (a0 := a0) (Or.inr (hw _ (List.mem_of_getElem? (i := 26) rfl))) (Or.inl (hw _ (List.mem_of_getElem? (i := 51) rfl))) (by decide) (t := (.array .byte)) (t' := .int) (by decide) (by decide)))).other W8 (Or.inr (slot_ne (a0 := a0) (Or.inr (hw _ (List.mem_of_getElem? (i := 26) rfl))) (Or.inl (hw _ (List.mem_of_getElem? (i := 54) rfl))) (by decide) (t := (.array .byte)) (t' := .int) (by decide) (by decide)))).other W20 (Or.inr (slot_ne (a0 := a0) (Or.inr (hw _ (List.mem_of_getElem? (i := 26) rfl))) (Or.inl (hw _ (List.mem_of_getElem? (i := 37) rfl))) (by decide) (t := (.array .byte)) (t' := .int) (by decide) (by decide))))
    have c33 : Fld Z h20 ob "quorumkeep/store/Messages$Reader" "end" "I" (.int z) := (c12.other W20 (Or.inr (slot_ne (a0 := a0) (Or.inl (hw _ (List.mem_of_getElem? (i := 28) rfl))) (Or.inl (hw _ (List.mem_of_getElem? (i := 37) rfl))) (by decide) (t := .int) (t' := .int) (by decide) (by decide))))
    have c34 : Fld Z h20 ob "quorumkeep/store/Messages$Reader" "held" "I" (.int (0 : Int32)) := (((F_held.other W2 (Or.inr (slot_ne (a0 := a0) (Or.inl (hw _ (List.mem_of_getElem? (i := 49) rfl))) (Or.inl (hw _ (List.mem_of_getElem? (i := 51) rfl))) (by decide) (t := .int) (t' := .int) (by decide) (by decide)))).other W8 (Or.inr (slot_ne (a0 := a0) (Or.inl (hw _ (List.mem_of_getElem? (i := 49) rfl))) (Or.inl (hw _ (List.mem_of_getElem? (i := 54) rfl))) (by decide) (t := .int) (t' := .int) (by decide) (by decide)))).other W20 (Or.inr (slot_ne (a0 := a0) (Or.inl (hw _ (List.mem_of_getElem? (i := 49) rfl))) (Or.inl (hw _ (List.mem_of_getElem? (i := 37) rfl))) (by decide) (t := .int) (t' := .int) (by decide) (by decide))))
    have c35 : Fld Z h20 ob "quorumkeep/store/Messages$Reader" "keepable" "I" (.int (4194306 : Int32)) := (Fw8.other W20 (Or.inr (slot_ne (a0 := a0) (Or.inl (hw _ (List.mem_of_getElem? (i := 54) rfl))) (Or.inl (hw _ (List.mem_of_getElem? (i := 37) rfl))) (by decide) (t := .int) (t' := .int) (by decide) (by decide))))
    exact ⟨rfl, N25, K20, ⟨c26, c30, c24, c31, c32, c33, c23, (by rw [hA]; exact Fw20), c34, c22, ⟨_, c27⟩, ⟨_, c35⟩⟩⟩
theorem pd_9 : parseMethodDescriptor "(III)[B" = some ⟨[.int, .int, .int], some (.array .byte)⟩ := by decide +kernel
theorem pd_10 : parseMethodDescriptor "([B)V" = some ⟨[(.array .byte)], none⟩ := by decide +kernel
theorem pd_11 : parseMethodDescriptor "()J" = some ⟨[], some .long⟩ := by decide +kernel
theorem pd_12 : parseMethodDescriptor "()[B" = some ⟨[], some (.array .byte)⟩ := by decide +kernel
theorem pd_13 : parseMethodDescriptor "([BI)I" = some ⟨[(.array .byte), .int], some .int⟩ := by decide +kernel
theorem ef_rm0 (m : MethodId) (x0 : Int32) (x1 : Int32) (x2 : Int32) : entryFrame m #[(.int x0), (.int x1), (.int x2)] maxLocals = mkF m 0 #[.val (.int x0), .val (.int x1), .val (.int x2), .unset, .unset, .unset, .unset, .unset, .unset, .unset, .unset, .unset, .unset, .unset, .unset, .unset, .unset, .unset, .unset, .unset] [] := by first | (simp [entryFrame, mkF, argsToLocals, Value.category, maxLocals]; done) | rfl
def Q0 (Z : State) (p0 : Int32) (p1 : Int32) (p2 : Int32) (ln : Addr) (kl : ClassId) (h0 : Heap) (n0 : Nat) (v : Option Value) (h : Heap) (L : List Loc) : Prop := v = some (.int 1) ∧ Fr n0 L
set_option maxRecDepth 65536 in
set_option maxHeartbeats 40000000 in
theorem rm0 (l : Launch) (Z : State) (a0 : Array Value) (hw : ∀ d ∈ tables_1, d.before a0 Z = true) (ws : List Jvm.Cond) (p0 : Int32) (p1 : Int32) (p2 : Int32) (ln : Addr) (kl : ClassId) (h0 : Heap) (n0 : Nat) (Z0 : n0 ≤ h0.size) (S_none : Sta Z h0 "quorumkeep/store/Messages$Reader" "NONE" "[B" (.ref ln)) (V_ln : Arv Z h0 ln kl .byte (0 : Int32) [] (.int (0 : Int32))) :
    MetFree l x (head1 (Jvm.Cond.code x code maxLocals ret :: ws) room_1) (fun a U => a = #[(.int p0), (.int p1), (.int p2)] ∧ Z.Warmed39 U.vm ∧ U.heap = h0) (fun _ _ _ _ _ => True) (fun _ U o U' => ∃ v L, o = .returned v ∧ Q0 Z p0 p1 p2 ln kl h0 n0 v U'.heap L ∧ FrameEnd U o U' L room_1.cells room_1.slots) := by
  refine MetFree.of_bodySF (plainFor_of_name pn_0) hisR ?_
  intro p e s0 m args below meth c s₁ Bd hml0 hP hK
  obtain ⟨rfl, hZ, hh⟩ := hP
  have hx := Bd.exec
  have hby := Bd.bytes
  have hml : c.maxLocals = 20 := hml0
  have hown : s0.vm.findClass "quorumkeep/store/ReaderMostMessagesLeftPinLaw" = some m.cls := findClass_of_methodNamed Bd.named
  have hnm := (name_of_methodNamed Bd.named Bd.method).1
  have X0 : Stand p l e room_1 s0 m #[(.int p0), (.int p1), (.int p2)] below meth c s₁ [] 0 0 := Stand.of_body Bd
  have e0 : s₁.heap = h0 := by rw [← hh, Bd.state]; rfl
  have N0 := Fr.nil n0
  have pre0 : ∀ t, Steps p.tables e below (s₁.setTop (mkF m 0 #[.val (.int p0), .val (.int p1), .val (.int p2), .unset, .unset, .unset, .unset, .unset, .unset, .unset, .unset, .unset, .unset, .unset, .unset, .unset, .unset, .unset, .unset, .unset] [])) t → Steps p.tables e below (s₁.setTop (entryFrame m #[(.int p0), (.int p1), (.int p2)] maxLocals)) t := fun t k => castTop (ef_rm0 m p0 p1 p2) k
  obtain ⟨T1, zn, Lx1, X1, e1, N1, hz, pre1⟩ : ∃ (T1 : State) (zn : Int32) (Lx1 : List Loc), Stand p l e room_1 s0 m #[(.int p0), (.int p1), (.int p2)] below meth c T1 Lx1 0 0 ∧ T1.heap = h0 ∧ Fr n0 Lx1 ∧ (zn = 0 ∨ zn = 1 ∨ zn = 2 ∨ zn = 3 ∨ zn = 4) ∧ (∀ t, Steps p.tables e below (T1.setTop (mkF m 6 #[.val (.int p0), .val (.int p1), .val (.int p2), .unset, .unset, .unset, .unset, .unset, .unset, .unset, .unset, .unset, .unset, .unset, .unset, .unset, .unset, .unset, .unset, .unset] [(.int zn)])) t → Steps p.tables e below (s₁.setTop (entryFrame m #[(.int p0), (.int p1), (.int p2)] maxLocals)) t) := by
    have pre2 : ∀ t, Steps p.tables e below (s₁.setTop (mkF m 6 #[.val (.int p0), .val (.int p1), .val (.int p2), .unset, .unset, .unset, .unset, .unset, .unset, .unset, .unset, .unset, .unset, .unset, .unset, .unset, .unset, .unset, .unset, .unset] [(.int ((p0 &&& (2147483647 : Int32)) % (5 : Int32)))])) t → Steps p.tables e below (s₁.setTop (entryFrame m #[(.int p0), (.int p1), (.int p2)] maxLocals)) t := fun t k => by
      refine pre0 t ?_
      show Steps p.tables e below (s₁.setTop (mkF m 0 #[.val (.int p0), .val (.int p1), .val (.int p2), .unset, .unset, .unset, .unset, .unset, .unset, .unset, .unset, .unset, .unset, .unset, .unset, .unset, .unset, .unset, .unset, .unset] [])) _
      refine XS.iloadN X0.here hx rfl (hb hby at_0) rfl ?_
      show Steps p.tables e below (s₁.setTop (mkF m 1 #[.val (.int p0), .val (.int p1), .val (.int p2), .unset, .unset, .unset, .unset, .unset, .unset, .unset, .unset, .unset, .unset, .unset, .unset, .unset, .unset, .unset, .unset, .unset] [(.int p0)])) _
      refine X0.ldcInt hx hown (mvT hZ (hw _ (List.mem_of_getElem? (i := 0) rfl))) (g := (mkF m 1 #[.val (.int p0), .val (.int p1), .val (.int p2), .unset, .unset, .unset, .unset, .unset, .unset, .unset, .unset, .unset, .unset, .unset, .unset, .unset, .unset, .unset, .unset, .unset] [(.int p0)])) rfl (hb hby at_1) _ ?_
      show Steps p.tables e below (s₁.setTop (mkF m 3 #[.val (.int p0), .val (.int p1), .val (.int p2), .unset, .unset, .unset, .unset, .unset, .unset, .unset, .unset, .unset, .unset, .unset, .unset, .unset, .unset, .unset, .unset, .unset] [(.int (2147483647 : Int32)), (.int p0)])) _
      refine XS.iand X0.here hx rfl (hb hby at_3) rfl ?_
      show Steps p.tables e below (s₁.setTop (mkF m 4 #[.val (.int p0), .val (.int p1), .val (.int p2), .unset, .unset, .unset, .unset, .unset, .unset, .unset, .unset, .unset, .unset, .unset, .unset, .unset, .unset, .unset, .unset, .unset] [(.int (p0 &&& (2147483647 : Int32)))])) _
      refine XS.iconst X0.here hx rfl (hb hby at_4) ?_
      show Steps p.tables e below (s₁.setTop (mkF m 5 #[.val (.int p0), .val (.int p1), .val (.int p2), .unset, .unset, .unset, .unset, .unset, .unset, .unset, .unset, .unset, .unset, .unset, .unset, .unset, .unset, .unset, .unset, .unset] [(.int (5 : Int32)), (.int (p0 &&& (2147483647 : Int32)))])) _
      refine iremM X0 hx rfl (hb hby at_5) rfl (by decide) ?_
      exact k
    exact ⟨s₁, ((p0 &&& (2147483647 : Int32)) % (5 : Int32)), _, X0, e0, N0, own_k5 p0, pre2⟩
  have hzb := own_zb hz
  obtain ⟨_, _, ⟨T3, L3, k3, n3⟩, -, X3, ⟨Lc3, hQ3, l3, y3, z3⟩, st3⟩ := Jvm.LawKit.callS X1 hx (y := (⟨"quorumkeep/store/ReaderMostMessagesLeftPinLaw", "make", "(III)[B"⟩ : MethodName)) hown (mvT hZ (hw _ (List.mem_of_getElem? (i := 1) rfl))) (mvT hZ (hw _ (List.mem_of_getElem? (i := 2) rfl))) (mvT hZ (hw _ (List.mem_of_getElem? (i := 3) rfl))) (mvT hZ (hw _ (List.mem_of_getElem? (i := 4) rfl))) (by decide) (backOf (W := 0) (rmmake l Z a0 hw [] zn p1 p2 h0 n0 Z0 hz) hZ (hw _ (List.mem_of_getElem? (i := 4) rfl)) (hw _ (List.mem_of_getElem? (i := 3) rfl)) (by decide) (by decide)) (g := (mkF m 10 #[.val (.int p0), .val (.int p1), .val (.int p2), .val (.int zn), .unset, .unset, .unset, .unset, .unset, .unset, .unset, .unset, .unset, .unset, .unset, .unset, .unset, .unset, .unset, .unset] [(.int p2), (.int p1), (.int zn)])) rfl (by rw [hml]; rfl) (argsL := [(.int zn), (.int p1), (.int p2)]) (rest := []) (lenOf pd_9 rfl) rfl (by show 2 * 0 + _ ≤ _; exact Nat.le_of_eq rfl) (hb hby at_10) (fun _ _ => ⟨rfl, e1, (by decide : 0 + 1 ≤ _), (by decide : 0 + 4 ≤ _)⟩)
  dsimp only [Pt.U, Pt.locs, Pt.cells, Pt.slots] at X3 l3 y3 z3 st3 hQ3
  subst l3 y3 z3
  obtain ⟨ar3, kk3, vs3, rfl, Nq3, Kq3, hs3, Vq3⟩ := hQ3
  have N3 := Fr.app N1 Nq3
  have Z4 : n0 ≤ T3.heap.size := Nat.le_trans Z0 Kq3.1
  obtain ⟨T5, h5, X5, e5, E5, A5, D5, -, st5⟩ := newO X3 hx hZ hown (hw _ (List.mem_of_getElem? (i := 6) rfl)) (hw _ (List.mem_of_getElem? (i := 7) rfl)) (hw _ (List.mem_of_getElem? (i := 8) rfl)) rfl (g := (mkF m 15 #[.val (.int p0), .val (.int p1), .val (.int p2), .val (.int zn), .val (.ref ar3), .unset, .unset, .unset, .unset, .unset, .unset, .unset, .unset, .unset, .unset, .unset, .unset, .unset, .unset, .unset] [])) rfl (hb hby at_15) (by decide) (by decide)
  obtain ⟨b5, g5⟩ : ∃ z, z = T3.heap.size := ⟨_, rfl⟩
  rw [← g5] at A5 D5 st5
  have g_b5 : n0 ≤ b5 := Nat.le_trans Z4 (Nat.le_of_eq g5.symm)
  have Z6 : n0 ≤ h5.size := Nat.le_trans Z4 E5.1
  have F_line_b5 : Fld Z h5 b5 "quorumkeep/store/Messages$Reader" "line" "[B" .null := D5 (Or.inl (hw _ (List.mem_of_getElem? (i := 18) rfl))) (ty := (.array .byte)) (by decide)
  have F_in_b5 : Fld Z h5 b5 "quorumkeep/store/Messages$Reader" "in" "Ljava/io/InputStream;" .null := D5 (Or.inr (hw _ (List.mem_of_getElem? (i := 20) rfl))) (ty := (.object "java/io/InputStream")) (by decide)
  have F_length_b5 : Fld Z h5 b5 "quorumkeep/store/Messages$Reader" "length" "J" (.long (0 : Int64)) := D5 (Or.inr (hw _ (List.mem_of_getElem? (i := 22) rfl))) (ty := .long) (by decide)
  have F_budget_b5 : Fld Z h5 b5 "quorumkeep/store/Messages$Reader" "budget" "Lquorumkeep/base/HeapBudget;" .null := D5 (Or.inr (hw _ (List.mem_of_getElem? (i := 24) rfl))) (ty := (.object "quorumkeep/base/HeapBudget")) (by decide)
  have F_buffer_b5 : Fld Z h5 b5 "quorumkeep/store/Messages$Reader" "buffer" "[B" .null := D5 (Or.inr (hw _ (List.mem_of_getElem? (i := 26) rfl))) (ty := (.array .byte)) (by decide)
  have F_end_b5 : Fld Z h5 b5 "quorumkeep/store/Messages$Reader" "end" "I" (.int (0 : Int32)) := D5 (Or.inl (hw _ (List.mem_of_getElem? (i := 28) rfl))) (ty := .int) (by decide)
  have F_read_b5 : Fld Z h5 b5 "quorumkeep/store/Messages$Reader" "read" "J" (.long (0 : Int64)) := D5 (Or.inl (hw _ (List.mem_of_getElem? (i := 30) rfl))) (ty := .long) (by decide)
  have F_start_b5 : Fld Z h5 b5 "quorumkeep/store/Messages$Reader" "start" "I" (.int (0 : Int32)) := D5 (Or.inl (hw _ (List.mem_of_getElem? (i := 37) rfl))) (ty := .int) (by decide)
  have F_held_b5 : Fld Z h5 b5 "quorumkeep/store/Messages$Reader" "held" "I" (.int (0 : Int32)) := D5 (Or.inl (hw _ (List.mem_of_getElem? (i := 49) rfl))) (ty := .int) (by decide)
  have F_size_b5 : Fld Z h5 b5 "quorumkeep/store/Messages$Reader" "size" "I" (.int (0 : Int32)) := D5 (Or.inl (hw _ (List.mem_of_getElem? (i := 51) rfl))) (ty := .int) (by decide)
  have F_keepable_b5 : Fld Z h5 b5 "quorumkeep/store/Messages$Reader" "keepable" "I" (.int (0 : Int32)) := D5 (Or.inl (hw _ (List.mem_of_getElem? (i := 54) rfl))) (ty := .int) (by decide)
  have F_atEnd_b5 : Fld Z h5 b5 "quorumkeep/store/Messages$Reader" "atEnd" "Z" (.int (0 : Int32)) := D5 (Or.inl (hw _ (List.mem_of_getElem? (i := 68) rfl))) (ty := .boolean) (by decide)
  have c7 : Arv Z h5 ar3 kk3 .byte zn vs3 (.int (0 : Int32)) := (Vq3.ext E5)
  have c8 : Sta Z h5 "quorumkeep/store/Messages$Reader" "NONE" "[B" (.ref ln) := ((own_sta_keep S_none Kq3 all0).ext E5)
  obtain ⟨_, _, ⟨T9, L9, k9, n9⟩, -, X9, ⟨Lc9, hQ9, l9, y9, z9⟩, st9⟩ := X5.specialBack hx (y := (⟨"quorumkeep/store/Messages$Reader", "<init>", "([B)V"⟩ : MethodName)) rfl hown (mvT hZ (hw _ (List.mem_of_getElem? (i := 9) rfl))) (mvT hZ (hw _ (List.mem_of_getElem? (i := 10) rfl))) (mvT hZ (hw _ (List.mem_of_getElem? (i := 11) rfl))) (by decide) (backOf (W := 1) (rminit l Z a0 hw [] b5 ar3 kk3 zn vs3 (.int (0 : Int32)) ln h5 n0 Z6 A5 F_line_b5 F_in_b5 F_length_b5 F_budget_b5 F_buffer_b5 F_end_b5 F_read_b5 F_start_b5 F_held_b5 F_size_b5 F_keepable_b5 F_atEnd_b5 c7 c8 g_b5) hZ (hw _ (List.mem_of_getElem? (i := 11) rfl)) (hw _ (List.mem_of_getElem? (i := 8) rfl)) (by decide) (by decide)) (g := (mkF m 21 #[.val (.int p0), .val (.int p1), .val (.int p2), .val (.int zn), .val (.ref ar3), .unset, .unset, .unset, .unset, .unset, .unset, .unset, .unset, .unset, .unset, .unset, .unset, .unset, .unset, .unset] [(.ref ar3), (.ref b5), (.ref b5)])) rfl (by rw [hml]; rfl) (Steps.refl _) (a := b5) (argsL := [(.ref ar3)]) (rest := [(.ref b5)]) (lenOf pd_10 rfl) rfl (by show 2 * 0 + _ ≤ _; exact Nat.le_of_eq rfl) (hb hby at_21) (fun _ _ => ⟨rfl, e5, (by decide : 2 + 0 ≤ _), (by decide : 16 + 0 ≤ _)⟩)
  dsimp only [Pt.U, Pt.locs, Pt.cells, Pt.slots] at X9 l9 y9 z9 st9 hQ9
  subst l9 y9 z9
  obtain ⟨rfl, Nq9, Kq9, rd9⟩ := hQ9
  have N9 := Fr.app N3 Nq9
  have Z10 : n0 ≤ T9.heap.size := Nat.le_trans Z6 Kq9.1
  have rdc_i := rd9
  obtain ⟨E_b5_i, F_line_i, F_length_i, F_budget_i, F_buffer_i, F_end_i, F_read_i, F_start_i, F_held_i, F_atEnd_i, ⟨u_size_i, F_size_i⟩, ⟨u_keep_i, F_keepable_i⟩⟩ := rdc_i
  have c11 : Arv Z T9.heap ar3 kk3 .byte zn vs3 (.int (0 : Int32)) := (c7.keep Kq9 (ninS (Nat.ne_of_lt (Nat.lt_of_lt_of_le Vq3.lt (Nat.le_of_eq g5.symm))) nin0))
  have ne_ra : b5 ≠ ar3 := own_ne_arv E_b5_i (hw _ (List.mem_of_getElem? (i := 7) rfl)) c11
  have c12 : Arv Z T9.heap ln kl .byte (0 : Int32) [] (.int (0 : Int32)) := (((V_ln.keep Kq3 nin0).ext E5).keep Kq9 (ninS (Nat.ne_of_lt (Nat.lt_of_lt_of_le (Nat.lt_of_lt_of_le V_ln.lt Kq3.1) (Nat.le_of_eq g5.symm))) nin0))
  have ne_rl : b5 ≠ ln := own_ne_arv E_b5_i (hw _ (List.mem_of_getElem? (i := 7) rfl)) c12
  obtain ⟨cq13, kq13, q13a, q13b, q13c⟩ := isOf hZ rfl E_b5_i
  obtain ⟨_, _, ⟨T13, L13, k13, n13⟩, -, X13, ⟨Lc13, hQ13, l13, y13, z13⟩, st13⟩ := X9.virtualBack hx (y := (⟨"quorumkeep/store/Messages$Reader", "mostMessagesLeft", "()J"⟩ : MethodName)) (z := (⟨"quorumkeep/store/Messages$Reader", "mostMessagesLeft", "()J"⟩ : MethodName)) hown (mvT hZ (hw _ (List.mem_of_getElem? (i := 31) rfl))) (mvT hZ (hw _ (List.mem_of_getElem? (i := 32) rfl))) (notFace_of_selects (args := #[]) (mvT hZ (hw _ (List.mem_of_getElem? (i := 34) rfl)))) (mvT hZ (hw _ (List.mem_of_getElem? (i := 34) rfl))) (mvT hZ (hw _ (List.mem_of_getElem? (i := 33) rfl))) (by decide) (backOf (W := 0) (rmmm l Z a0 hw [] b5 zn (0 : Int32) T9.heap n0 Z10 F_length_i F_end_i F_start_i F_read_i (own_z0 hz)) hZ (hw _ (List.mem_of_getElem? (i := 35) rfl)) (hw _ (List.mem_of_getElem? (i := 8) rfl)) (by decide) (by decide)) q13a q13c (g := (mkF m 28 #[.val (.int p0), .val (.int p1), .val (.int p2), .val (.int zn), .val (.ref ar3), .val (.ref b5), .unset, .unset, .unset, .unset, .unset, .unset, .unset, .unset, .unset, .unset, .unset, .unset, .unset, .unset] [(.ref b5)])) rfl (by rw [hml]; rfl) (Steps.refl _) (argsL := []) (rest := []) (lenOf pd_11 rfl) rfl (by show 2 * 0 + _ ≤ _; exact Nat.le_of_eq rfl) (hb hby at_28) (fun _ _ => ⟨rfl, rfl, (by decide : 2 + 0 ≤ _), (by decide : 16 + 0 ≤ _)⟩)
  dsimp only [Pt.U, Pt.locs, Pt.cells, Pt.slots] at X13 l13 y13 z13 st13 hQ13
  subst l13 y13 z13
  obtain ⟨rfl, Nq13, hh13⟩ := hQ13
  have N13 := Fr.app N9 Nq13
  have e13 : T13.heap = T9.heap := hh13
  have pre14 : ∀ t, Steps p.tables e below (T13.setTop (mkF m 43 #[.val (.int p0), .val (.int p1), .val (.int p2), .val (.int zn), .val (.ref ar3), .val (.ref b5), .val (.long ((zn - (0 : Int32)).toInt64)), .second, .unset, .unset, .unset, .unset, .unset, .unset, .unset, .unset, .unset, .unset, .unset, .unset] [])) t → Steps p.tables e below (s₁.setTop (entryFrame m #[(.int p0), (.int p1), (.int p2)] maxLocals)) t := fun t k => by
    refine pre1 t ?_
    show Steps p.tables e below (T1.setTop (mkF m 6 #[.val (.int p0), .val (.int p1), .val (.int p2), .unset, .unset, .unset, .unset, .unset, .unset, .unset, .unset, .unset, .unset, .unset, .unset, .unset, .unset, .unset, .unset, .unset] [(.int zn)])) _
    refine XS.istoreN X1.here hx rfl (hb hby at_6) rfl (l' := #[.val (.int p0), .val (.int p1), .val (.int p2), .val (.int zn), .unset, .unset, .unset, .unset, .unset, .unset, .unset, .unset, .unset, .unset, .unset, .unset, .unset, .unset, .unset, .unset]) rfl ?_
    show Steps p.tables e below (T1.setTop (mkF m 7 #[.val (.int p0), .val (.int p1), .val (.int p2), .val (.int zn), .unset, .unset, .unset, .unset, .unset, .unset, .unset, .unset, .unset, .unset, .unset, .unset, .unset, .unset, .unset, .unset] [])) _
    refine XS.iloadN X1.here hx rfl (hb hby at_7) rfl ?_
    show Steps p.tables e below (T1.setTop (mkF m 8 #[.val (.int p0), .val (.int p1), .val (.int p2), .val (.int zn), .unset, .unset, .unset, .unset, .unset, .unset, .unset, .unset, .unset, .unset, .unset, .unset, .unset, .unset, .unset, .unset] [(.int zn)])) _
    refine XS.iloadN X1.here hx rfl (hb hby at_8) rfl ?_
    show Steps p.tables e below (T1.setTop (mkF m 9 #[.val (.int p0), .val (.int p1), .val (.int p2), .val (.int zn), .unset, .unset, .unset, .unset, .unset, .unset, .unset, .unset, .unset, .unset, .unset, .unset, .unset, .unset, .unset, .unset] [(.int p1), (.int zn)])) _
    refine XS.iloadN X1.here hx rfl (hb hby at_9) rfl ?_
    show Steps p.tables e below (T1.setTop (mkF m 10 #[.val (.int p0), .val (.int p1), .val (.int p2), .val (.int zn), .unset, .unset, .unset, .unset, .unset, .unset, .unset, .unset, .unset, .unset, .unset, .unset, .unset, .unset, .unset, .unset] [(.int p2), (.int p1), (.int zn)])) _
    refine st3 _ ?_
    show Steps p.tables e below (T3.setTop (mkF m 13 #[.val (.int p0), .val (.int p1), .val (.int p2), .val (.int zn), .unset, .unset, .unset, .unset, .unset, .unset, .unset, .unset, .unset, .unset, .unset, .unset, .unset, .unset, .unset, .unset] [(.ref ar3)])) _
    refine XS.astore X3.here hx rfl (hb hby at_13) rfl rfl (l' := #[.val (.int p0), .val (.int p1), .val (.int p2), .val (.int zn), .val (.ref ar3), .unset, .unset, .unset, .unset, .unset, .unset, .unset, .unset, .unset, .unset, .unset, .unset, .unset, .unset, .unset]) rfl ?_
    show Steps p.tables e below (T3.setTop (mkF m 15 #[.val (.int p0), .val (.int p1), .val (.int p2), .val (.int zn), .val (.ref ar3), .unset, .unset, .unset, .unset, .unset, .unset, .unset, .unset, .unset, .unset, .unset, .unset, .unset, .unset, .unset] [])) _
    refine st5 _ ?_
    show Steps p.tables e below (T5.setTop (mkF m 18 #[.val (.int p0), .val (.int p1), .val (.int p2), .val (.int zn), .val (.ref ar3), .unset, .unset, .unset, .unset, .unset, .unset, .unset, .unset, .unset, .unset, .unset, .unset, .unset, .unset, .unset] [(.ref b5)])) _
    refine XS.dup X5.here hx rfl (hb hby at_18) rfl rfl ?_
    show Steps p.tables e below (T5.setTop (mkF m 19 #[.val (.int p0), .val (.int p1), .val (.int p2), .val (.int zn), .val (.ref ar3), .unset, .unset, .unset, .unset, .unset, .unset, .unset, .unset, .unset, .unset, .unset, .unset, .unset, .unset, .unset] [(.ref b5), (.ref b5)])) _
    refine XS.aload X5.here hx rfl (hb hby at_19) rfl rfl ?_
    show Steps p.tables e below (T5.setTop (mkF m 21 #[.val (.int p0), .val (.int p1), .val (.int p2), .val (.int zn), .val (.ref ar3), .unset, .unset, .unset, .unset, .unset, .unset, .unset, .unset, .unset, .unset, .unset, .unset, .unset, .unset, .unset] [(.ref ar3), (.ref b5), (.ref b5)])) _
    refine st9.trans ?_
    show Steps p.tables e below (T9.setTop (mkF m 24 #[.val (.int p0), .val (.int p1), .val (.int p2), .val (.int zn), .val (.ref ar3), .unset, .unset, .unset, .unset, .unset, .unset, .unset, .unset, .unset, .unset, .unset, .unset, .unset, .unset, .unset] [(.ref b5)])) _
    refine XS.astore X9.here hx rfl (hb hby at_24) rfl rfl (l' := #[.val (.int p0), .val (.int p1), .val (.int p2), .val (.int zn), .val (.ref ar3), .val (.ref b5), .unset, .unset, .unset, .unset, .unset, .unset, .unset, .unset, .unset, .unset, .unset, .unset, .unset, .unset]) rfl ?_
    show Steps p.tables e below (T9.setTop (mkF m 26 #[.val (.int p0), .val (.int p1), .val (.int p2), .val (.int zn), .val (.ref ar3), .val (.ref b5), .unset, .unset, .unset, .unset, .unset, .unset, .unset, .unset, .unset, .unset, .unset, .unset, .unset, .unset] [])) _
    refine XS.aload X9.here hx rfl (hb hby at_26) rfl rfl ?_
    show Steps p.tables e below (T9.setTop (mkF m 28 #[.val (.int p0), .val (.int p1), .val (.int p2), .val (.int zn), .val (.ref ar3), .val (.ref b5), .unset, .unset, .unset, .unset, .unset, .unset, .unset, .unset, .unset, .unset, .unset, .unset, .unset, .unset] [(.ref b5)])) _
    refine st13.trans ?_
    show Steps p.tables e below (T13.setTop (mkF m 31 #[.val (.int p0), .val (.int p1), .val (.int p2), .val (.int zn), .val (.ref ar3), .val (.ref b5), .unset, .unset, .unset, .unset, .unset, .unset, .unset, .unset, .unset, .unset, .unset, .unset, .unset, .unset] [(.long ((zn - (0 : Int32)).toInt64))])) _
    refine XS.lstore X13.here hx rfl (hb hby at_31) rfl (l' := #[.val (.int p0), .val (.int p1), .val (.int p2), .val (.int zn), .val (.ref ar3), .val (.ref b5), .val (.long ((zn - (0 : Int32)).toInt64)), .second, .unset, .unset, .unset, .unset, .unset, .unset, .unset, .unset, .unset, .unset, .unset, .unset]) rfl ?_
    show Steps p.tables e below (T13.setTop (mkF m 33 #[.val (.int p0), .val (.int p1), .val (.int p2), .val (.int zn), .val (.ref ar3), .val (.ref b5), .val (.long ((zn - (0 : Int32)).toInt64)), .second, .unset, .unset, .unset, .unset, .unset, .unset, .unset, .unset, .unset, .unset, .unset, .unset] [])) _
    refine XS.lload X13.here hx rfl (hb hby at_33) rfl ?_
    show Steps p.tables e below (T13.setTop (mkF m 35 #[.val (.int p0), .val (.int p1), .val (.int p2), .val (.int zn), .val (.ref ar3), .val (.ref b5), .val (.long ((zn - (0 : Int32)).toInt64)), .second, .unset, .unset, .unset, .unset, .unset, .unset, .unset, .unset, .unset, .unset, .unset, .unset] [(.long ((zn - (0 : Int32)).toInt64))])) _
    refine XS.iloadN X13.here hx rfl (hb hby at_35) rfl ?_
    show Steps p.tables e below (T13.setTop (mkF m 36 #[.val (.int p0), .val (.int p1), .val (.int p2), .val (.int zn), .val (.ref ar3), .val (.ref b5), .val (.long ((zn - (0 : Int32)).toInt64)), .second, .unset, .unset, .unset, .unset, .unset, .unset, .unset, .unset, .unset, .unset, .unset, .unset] [(.int zn), (.long ((zn - (0 : Int32)).toInt64))])) _
    refine XS.i2l X13.here hx rfl (hb hby at_36) rfl ?_
    show Steps p.tables e below (T13.setTop (mkF m 37 #[.val (.int p0), .val (.int p1), .val (.int p2), .val (.int zn), .val (.ref ar3), .val (.ref b5), .val (.long ((zn - (0 : Int32)).toInt64)), .second, .unset, .unset, .unset, .unset, .unset, .unset, .unset, .unset, .unset, .unset, .unset, .unset] [(.long (zn.toInt64)), (.long ((zn - (0 : Int32)).toInt64))])) _
    refine XS.lcmp X13.here hx rfl (hb hby at_37) rfl ?_
    show Steps p.tables e below (T13.setTop (mkF m 38 #[.val (.int p0), .val (.int p1), .val (.int p2), .val (.int zn), .val (.ref ar3), .val (.ref b5), .val (.long ((zn - (0 : Int32)).toInt64)), .second, .unset, .unset, .unset, .unset, .unset, .unset, .unset, .unset, .unset, .unset, .unset, .unset] [(.int (lcmpW ((zn - (0 : Int32)).toInt64) (zn.toInt64)))])) _
    refine XS.ifYes X13.here hx rfl (pc0 := 38) (pc' := 43) rfl (hb hby at_38) rfl ((if0 _ _).trans (teq (own_le0 zn : (lcmpW ((zn - (0 : Int32)).toInt64) (zn.toInt64)) = (0 : Int32))).1) (by decide) (by decide) ?_
    exact k
  by_cases hs_15 : (0 : Int32) = zn
  · obtain ⟨cq16, kq16, q16a, q16b, q16c⟩ := isOf hZ e13 E_b5_i
    obtain ⟨_, _, ⟨T16, L16, k16, n16⟩, -, X16, ⟨Lc16, hQ16, l16, y16, z16⟩, st16⟩ := X13.virtualBack hx (y := (⟨"quorumkeep/store/Messages$Reader", "next", "()[B"⟩ : MethodName)) (z := (⟨"quorumkeep/store/Messages$Reader", "next", "()[B"⟩ : MethodName)) hown (mvT hZ (hw _ (List.mem_of_getElem? (i := 38) rfl))) (mvT hZ (hw _ (List.mem_of_getElem? (i := 39) rfl))) (notFace_of_selects (args := #[]) (mvT hZ (hw _ (List.mem_of_getElem? (i := 41) rfl)))) (mvT hZ (hw _ (List.mem_of_getElem? (i := 41) rfl))) (mvT hZ (hw _ (List.mem_of_getElem? (i := 40) rfl))) (by decide) (backOf (W := 0) (rmnextN l Z a0 hw [] b5 ar3 zn vs3 (.int (0 : Int32)) ln (0 : Int32) T9.heap n0 Z10 (own_cast hs_15 rd9) (own_a3 hzb hs_15) g_b5) hZ (hw _ (List.mem_of_getElem? (i := 42) rfl)) (hw _ (List.mem_of_getElem? (i := 8) rfl)) (by decide) (by decide)) q16a q16c (g := (mkF m 45 #[.val (.int p0), .val (.int p1), .val (.int p2), .val (.int zn), .val (.ref ar3), .val (.ref b5), .val (.long ((zn - (0 : Int32)).toInt64)), .second, .unset, .unset, .unset, .unset, .unset, .unset, .unset, .unset, .unset, .unset, .unset, .unset] [(.ref b5)])) rfl (by rw [hml]; rfl) (Steps.refl _) (argsL := []) (rest := []) (lenOf pd_12 rfl) rfl (by show 2 * 0 + _ ≤ _; exact Nat.le_of_eq rfl) (hb hby at_45) (fun _ _ => ⟨rfl, e13, (by decide : 2 + 0 ≤ _), (by decide : 16 + 0 ≤ _)⟩)
    dsimp only [Pt.U, Pt.locs, Pt.cells, Pt.slots] at X16 l16 y16 z16 st16 hQ16
    subst l16 y16 z16
    obtain ⟨rfl, Nq16, Kq16, rd16⟩ := hQ16
    have N16 := Fr.app N13 Nq16
    have Z17 : n0 ≤ T16.heap.size := Nat.le_trans Z10 Kq16.1
    have hs16 : (own_after vs3 (.int (0 : Int32)) zn (0 : Int32)) = zn := own_a3 hzb hs_15
    have rdc_16 := rd16
    obtain ⟨E_b5_16, F_line_16, F_length_16, F_budget_16, F_buffer_16, F_end_16, F_read_16, F_start_16, F_held_16, F_atEnd_16, ⟨u_size_16, F_size_16⟩, ⟨u_keep_16, F_keepable_16⟩⟩ := rdc_16
    have c18 : Arv Z T16.heap ar3 kk3 .byte zn vs3 (.int (0 : Int32)) := (c11.keep Kq16 (ninS (Ne.symm ne_ra) nin0))
    obtain ⟨_, _, ⟨T19, L19, k19, n19⟩, -, X19, ⟨Lc19, hQ19, l19, y19, z19⟩, st19⟩ := Jvm.LawKit.callS X16 hx (y := (⟨"quorumkeep/store/ReaderMostMessagesLeftPinLaw", "after", "([BI)I"⟩ : MethodName)) hown (mvT hZ (hw _ (List.mem_of_getElem? (i := 69) rfl))) (mvT hZ (hw _ (List.mem_of_getElem? (i := 70) rfl))) (mvT hZ (hw _ (List.mem_of_getElem? (i := 3) rfl))) (mvT hZ (hw _ (List.mem_of_getElem? (i := 71) rfl))) (by decide) (backOf (W := 0) (rmafter l Z a0 hw [] ar3 (0 : Int32) kk3 zn vs3 (.int (0 : Int32)) T16.heap n0 Z17 c18) hZ (hw _ (List.mem_of_getElem? (i := 71) rfl)) (hw _ (List.mem_of_getElem? (i := 3) rfl)) (by decide) (by decide)) (g := (mkF m 80 #[.val (.int p0), .val (.int p1), .val (.int p2), .val (.int zn), .val (.ref ar3), .val (.ref b5), .val (.long ((zn - (0 : Int32)).toInt64)), .second, .val .null, .unset, .unset, .unset, .unset, .unset, .unset, .unset, .unset, .unset, .unset, .unset] [(.int (0 : Int32)), (.ref ar3)])) rfl (by rw [hml]; rfl) (argsL := [(.ref ar3), (.int (0 : Int32))]) (rest := []) (lenOf pd_13 rfl) rfl (by show 2 * 0 + _ ≤ _; exact Nat.le_of_eq rfl) (hb hby at_80) (fun _ _ => ⟨rfl, rfl, (by decide : 2 + 0 ≤ _), (by decide : 16 + 0 ≤ _)⟩)
    dsimp only [Pt.U, Pt.locs, Pt.cells, Pt.slots] at X19 l19 y19 z19 st19 hQ19
    subst l19 y19 z19
    obtain ⟨rfl, Nq19, hh19⟩ := hQ19
    have N19 := Fr.app N16 Nq19
    have e19 : T19.heap = T16.heap := hh19
    obtain ⟨cq20, kq20, q20a, q20b, q20c⟩ := isOf hZ e19 E_b5_16
    obtain ⟨_, _, ⟨T20, L20, k20, n20⟩, -, X20, ⟨Lc20, hQ20, l20, y20, z20⟩, st20⟩ := X19.virtualBack hx (y := (⟨"quorumkeep/store/Messages$Reader", "mostMessagesLeft", "()J"⟩ : MethodName)) (z := (⟨"quorumkeep/store/Messages$Reader", "mostMessagesLeft", "()J"⟩ : MethodName)) hown (mvT hZ (hw _ (List.mem_of_getElem? (i := 31) rfl))) (mvT hZ (hw _ (List.mem_of_getElem? (i := 32) rfl))) (notFace_of_selects (args := #[]) (mvT hZ (hw _ (List.mem_of_getElem? (i := 34) rfl)))) (mvT hZ (hw _ (List.mem_of_getElem? (i := 34) rfl))) (mvT hZ (hw _ (List.mem_of_getElem? (i := 33) rfl))) (by decide) (backOf (W := 0) (rmmm l Z a0 hw [] b5 zn (own_after vs3 (.int (0 : Int32)) zn (0 : Int32)) T16.heap n0 Z17 F_length_16 F_end_16 F_start_16 F_read_16 (own_z0 hz)) hZ (hw _ (List.mem_of_getElem? (i := 35) rfl)) (hw _ (List.mem_of_getElem? (i := 8) rfl)) (by decide) (by decide)) q20a q20c (g := (mkF m 87 #[.val (.int p0), .val (.int p1), .val (.int p2), .val (.int zn), .val (.ref ar3), .val (.ref b5), .val (.long ((zn - (0 : Int32)).toInt64)), .second, .val .null, .val (.int (own_after vs3 (.int (0 : Int32)) zn (0 : Int32))), .unset, .unset, .unset, .unset, .unset, .unset, .unset, .unset, .unset, .unset] [(.ref b5)])) rfl (by rw [hml]; rfl) (Steps.refl _) (argsL := []) (rest := []) (lenOf pd_11 rfl) rfl (by show 2 * 0 + _ ≤ _; exact Nat.le_of_eq rfl) (hb hby at_87) (fun _ _ => ⟨rfl, e19, (by decide : 2 + 0 ≤ _), (by decide : 16 + 0 ≤ _)⟩)
    dsimp only [Pt.U, Pt.locs, Pt.cells, Pt.slots] at X20 l20 y20 z20 st20 hQ20
    subst l20 y20 z20
    obtain ⟨rfl, Nq20, hh20⟩ := hQ20
    have N20 := Fr.app N19 Nq20
    have e20 : T20.heap = T16.heap := hh20
    obtain ⟨cq21, kq21, q21a, q21b, q21c⟩ := isOf hZ e20 E_b5_16
    obtain ⟨_, _, ⟨T21, L21, k21, n21⟩, -, X21, ⟨Lc21, hQ21, l21, y21, z21⟩, st21⟩ := X20.virtualBack hx (y := (⟨"quorumkeep/store/Messages$Reader", "next", "()[B"⟩ : MethodName)) (z := (⟨"quorumkeep/store/Messages$Reader", "next", "()[B"⟩ : MethodName)) hown (mvT hZ (hw _ (List.mem_of_getElem? (i := 38) rfl))) (mvT hZ (hw _ (List.mem_of_getElem? (i := 39) rfl))) (notFace_of_selects (args := #[]) (mvT hZ (hw _ (List.mem_of_getElem? (i := 41) rfl)))) (mvT hZ (hw _ (List.mem_of_getElem? (i := 41) rfl))) (mvT hZ (hw _ (List.mem_of_getElem? (i := 40) rfl))) (by decide) (backOf (W := 0) (rmnextN l Z a0 hw [] b5 ar3 zn vs3 (.int (0 : Int32)) ln (own_after vs3 (.int (0 : Int32)) zn (0 : Int32)) T16.heap n0 Z17 (own_cast hs16 rd16) (own_a3 hzb hs16) g_b5) hZ (hw _ (List.mem_of_getElem? (i := 42) rfl)) (hw _ (List.mem_of_getElem? (i := 8) rfl)) (by decide) (by decide)) q21a q21c (g := (mkF m 107 #[.val (.int p0), .val (.int p1), .val (.int p2), .val (.int zn), .val (.ref ar3), .val (.ref b5), .val (.long ((zn - (0 : Int32)).toInt64)), .second, .val .null, .val (.int (own_after vs3 (.int (0 : Int32)) zn (0 : Int32))), .val (.long ((zn - (own_after vs3 (.int (0 : Int32)) zn (0 : Int32))).toInt64)), .second, .unset, .unset, .unset, .unset, .unset, .unset, .unset, .unset] [(.ref b5)])) rfl (by rw [hml]; rfl) (Steps.refl _) (argsL := []) (rest := []) (lenOf pd_12 rfl) rfl (by show 2 * 0 + _ ≤ _; exact Nat.le_of_eq rfl) (hb hby at_107) (fun _ _ => ⟨rfl, e20, (by decide : 2 + 0 ≤ _), (by decide : 16 + 0 ≤ _)⟩)
    dsimp only [Pt.U, Pt.locs, Pt.cells, Pt.slots] at X21 l21 y21 z21 st21 hQ21
    subst l21 y21 z21
    obtain ⟨rfl, Nq21, Kq21, rd21⟩ := hQ21
    have N21 := Fr.app N20 Nq21
    have Z22 : n0 ≤ T21.heap.size := Nat.le_trans Z17 Kq21.1
    have hs21 : (own_after vs3 (.int (0 : Int32)) zn (own_after vs3 (.int (0 : Int32)) zn (0 : Int32))) = zn := own_a3 hzb hs16
    have rdc_21 := rd21
    obtain ⟨E_b5_21, F_line_21, F_length_21, F_budget_21, F_buffer_21, F_end_21, F_read_21, F_start_21, F_held_21, F_atEnd_21, ⟨u_size_21, F_size_21⟩, ⟨u_keep_21, F_keepable_21⟩⟩ := rdc_21
    have c23 : Arv Z T21.heap ar3 kk3 .byte zn vs3 (.int (0 : Int32)) := (c18.keep Kq21 (ninS (Ne.symm ne_ra) nin0))
    obtain ⟨_, _, ⟨T24, L24, k24, n24⟩, -, X24, ⟨Lc24, hQ24, l24, y24, z24⟩, st24⟩ := Jvm.LawKit.callS X21 hx (y := (⟨"quorumkeep/store/ReaderMostMessagesLeftPinLaw", "after", "([BI)I"⟩ : MethodName)) hown (mvT hZ (hw _ (List.mem_of_getElem? (i := 69) rfl))) (mvT hZ (hw _ (List.mem_of_getElem? (i := 70) rfl))) (mvT hZ (hw _ (List.mem_of_getElem? (i := 3) rfl))) (mvT hZ (hw _ (List.mem_of_getElem? (i := 71) rfl))) (by decide) (backOf (W := 0) (rmafter l Z a0 hw [] ar3 (own_after vs3 (.int (0 : Int32)) zn (0 : Int32)) kk3 zn vs3 (.int (0 : Int32)) T21.heap n0 Z22 c23) hZ (hw _ (List.mem_of_getElem? (i := 71) rfl)) (hw _ (List.mem_of_getElem? (i := 3) rfl)) (by decide) (by decide)) (g := (mkF m 143 #[.val (.int p0), .val (.int p1), .val (.int p2), .val (.int zn), .val (.ref ar3), .val (.ref b5), .val (.long ((zn - (0 : Int32)).toInt64)), .second, .val .null, .val (.int (own_after vs3 (.int (0 : Int32)) zn (0 : Int32))), .val (.long ((zn - (own_after vs3 (.int (0 : Int32)) zn (0 : Int32))).toInt64)), .second, .val .null, .unset, .unset, .unset, .unset, .unset, .unset, .unset] [(.int (own_after vs3 (.int (0 : Int32)) zn (0 : Int32))), (.ref ar3)])) rfl (by rw [hml]; rfl) (argsL := [(.ref ar3), (.int (own_after vs3 (.int (0 : Int32)) zn (0 : Int32)))]) (rest := []) (lenOf pd_13 rfl) rfl (by show 2 * 0 + _ ≤ _; exact Nat.le_of_eq rfl) (hb hby at_143) (fun _ _ => ⟨rfl, rfl, (by decide : 2 + 0 ≤ _), (by decide : 16 + 0 ≤ _)⟩)
    dsimp only [Pt.U, Pt.locs, Pt.cells, Pt.slots] at X24 l24 y24 z24 st24 hQ24
    subst l24 y24 z24
    obtain ⟨rfl, Nq24, hh24⟩ := hQ24
    have N24 := Fr.app N21 Nq24
    have e24 : T24.heap = T21.heap := hh24
    obtain ⟨cq25, kq25, q25a, q25b, q25c⟩ := isOf hZ e24 E_b5_21
    obtain ⟨_, _, ⟨T25, L25, k25, n25⟩, -, X25, ⟨Lc25, hQ25, l25, y25, z25⟩, st25⟩ := X24.virtualBack hx (y := (⟨"quorumkeep/store/Messages$Reader", "mostMessagesLeft", "()J"⟩ : MethodName)) (z := (⟨"quorumkeep/store/Messages$Reader", "mostMessagesLeft", "()J"⟩ : MethodName)) hown (mvT hZ (hw _ (List.mem_of_getElem? (i := 31) rfl))) (mvT hZ (hw _ (List.mem_of_getElem? (i := 32) rfl))) (notFace_of_selects (args := #[]) (mvT hZ (hw _ (List.mem_of_getElem? (i := 34) rfl)))) (mvT hZ (hw _ (List.mem_of_getElem? (i := 34) rfl))) (mvT hZ (hw _ (List.mem_of_getElem? (i := 33) rfl))) (by decide) (backOf (W := 0) (rmmm l Z a0 hw [] b5 zn (own_after vs3 (.int (0 : Int32)) zn (own_after vs3 (.int (0 : Int32)) zn (0 : Int32))) T21.heap n0 Z22 F_length_21 F_end_21 F_start_21 F_read_21 (own_z0 hz)) hZ (hw _ (List.mem_of_getElem? (i := 35) rfl)) (hw _ (List.mem_of_getElem? (i := 8) rfl)) (by decide) (by decide)) q25a q25c (g := (mkF m 150 #[.val (.int p0), .val (.int p1), .val (.int p2), .val (.int zn), .val (.ref ar3), .val (.ref b5), .val (.long ((zn - (0 : Int32)).toInt64)), .second, .val .null, .val (.int (own_after vs3 (.int (0 : Int32)) zn (0 : Int32))), .val (.long ((zn - (own_after vs3 (.int (0 : Int32)) zn (0 : Int32))).toInt64)), .second, .val .null, .val (.int (own_after vs3 (.int (0 : Int32)) zn (own_after vs3 (.int (0 : Int32)) zn (0 : Int32)))), .unset, .unset, .unset, .unset, .unset, .unset] [(.ref b5)])) rfl (by rw [hml]; rfl) (Steps.refl _) (argsL := []) (rest := []) (lenOf pd_11 rfl) rfl (by show 2 * 0 + _ ≤ _; exact Nat.le_of_eq rfl) (hb hby at_150) (fun _ _ => ⟨rfl, e24, (by decide : 2 + 0 ≤ _), (by decide : 16 + 0 ≤ _)⟩)
    dsimp only [Pt.U, Pt.locs, Pt.cells, Pt.slots] at X25 l25 y25 z25 st25 hQ25
    subst l25 y25 z25
    obtain ⟨rfl, Nq25, hh25⟩ := hQ25
    have N25 := Fr.app N24 Nq25
    have e25 : T25.heap = T21.heap := hh25
    obtain ⟨cq26, kq26, q26a, q26b, q26c⟩ := isOf hZ e25 E_b5_21
    obtain ⟨_, _, ⟨T26, L26, k26, n26⟩, -, X26, ⟨Lc26, hQ26, l26, y26, z26⟩, st26⟩ := X25.virtualBack hx (y := (⟨"quorumkeep/store/Messages$Reader", "next", "()[B"⟩ : MethodName)) (z := (⟨"quorumkeep/store/Messages$Reader", "next", "()[B"⟩ : MethodName)) hown (mvT hZ (hw _ (List.mem_of_getElem? (i := 38) rfl))) (mvT hZ (hw _ (List.mem_of_getElem? (i := 39) rfl))) (notFace_of_selects (args := #[]) (mvT hZ (hw _ (List.mem_of_getElem? (i := 41) rfl)))) (mvT hZ (hw _ (List.mem_of_getElem? (i := 41) rfl))) (mvT hZ (hw _ (List.mem_of_getElem? (i := 40) rfl))) (by decide) (backOf (W := 0) (rmnextN l Z a0 hw [] b5 ar3 zn vs3 (.int (0 : Int32)) ln (own_after vs3 (.int (0 : Int32)) zn (own_after vs3 (.int (0 : Int32)) zn (0 : Int32))) T21.heap n0 Z22 (own_cast hs21 rd21) (own_a3 hzb hs21) g_b5) hZ (hw _ (List.mem_of_getElem? (i := 42) rfl)) (hw _ (List.mem_of_getElem? (i := 8) rfl)) (by decide) (by decide)) q26a q26c (g := (mkF m 170 #[.val (.int p0), .val (.int p1), .val (.int p2), .val (.int zn), .val (.ref ar3), .val (.ref b5), .val (.long ((zn - (0 : Int32)).toInt64)), .second, .val .null, .val (.int (own_after vs3 (.int (0 : Int32)) zn (0 : Int32))), .val (.long ((zn - (own_after vs3 (.int (0 : Int32)) zn (0 : Int32))).toInt64)), .second, .val .null, .val (.int (own_after vs3 (.int (0 : Int32)) zn (own_after vs3 (.int (0 : Int32)) zn (0 : Int32)))), .val (.long ((zn - (own_after vs3 (.int (0 : Int32)) zn (own_after vs3 (.int (0 : Int32)) zn (0 : Int32)))).toInt64)), .second, .unset, .unset, .unset, .unset] [(.ref b5)])) rfl (by rw [hml]; rfl) (Steps.refl _) (argsL := []) (rest := []) (lenOf pd_12 rfl) rfl (by show 2 * 0 + _ ≤ _; exact Nat.le_of_eq rfl) (hb hby at_170) (fun _ _ => ⟨rfl, e25, (by decide : 2 + 0 ≤ _), (by decide : 16 + 0 ≤ _)⟩)
    dsimp only [Pt.U, Pt.locs, Pt.cells, Pt.slots] at X26 l26 y26 z26 st26 hQ26
    subst l26 y26 z26
    obtain ⟨rfl, Nq26, Kq26, rd26⟩ := hQ26
    have N26 := Fr.app N25 Nq26
    have Z27 : n0 ≤ T26.heap.size := Nat.le_trans Z22 Kq26.1
    have hs26 : (own_after vs3 (.int (0 : Int32)) zn (own_after vs3 (.int (0 : Int32)) zn (own_after vs3 (.int (0 : Int32)) zn (0 : Int32)))) = zn := own_a3 hzb hs21
    have rdc_26 := rd26
    obtain ⟨E_b5_26, F_line_26, F_length_26, F_budget_26, F_buffer_26, F_end_26, F_read_26, F_start_26, F_held_26, F_atEnd_26, ⟨u_size_26, F_size_26⟩, ⟨u_keep_26, F_keepable_26⟩⟩ := rdc_26
    have c28 : Arv Z T26.heap ar3 kk3 .byte zn vs3 (.int (0 : Int32)) := (c23.keep Kq26 (ninS (Ne.symm ne_ra) nin0))
    obtain ⟨_, _, ⟨T29, L29, k29, n29⟩, -, X29, ⟨Lc29, hQ29, l29, y29, z29⟩, st29⟩ := Jvm.LawKit.callS X26 hx (y := (⟨"quorumkeep/store/ReaderMostMessagesLeftPinLaw", "after", "([BI)I"⟩ : MethodName)) hown (mvT hZ (hw _ (List.mem_of_getElem? (i := 69) rfl))) (mvT hZ (hw _ (List.mem_of_getElem? (i := 70) rfl))) (mvT hZ (hw _ (List.mem_of_getElem? (i := 3) rfl))) (mvT hZ (hw _ (List.mem_of_getElem? (i := 71) rfl))) (by decide) (backOf (W := 0) (rmafter l Z a0 hw [] ar3 (own_after vs3 (.int (0 : Int32)) zn (own_after vs3 (.int (0 : Int32)) zn (0 : Int32))) kk3 zn vs3 (.int (0 : Int32)) T26.heap n0 Z27 c28) hZ (hw _ (List.mem_of_getElem? (i := 71) rfl)) (hw _ (List.mem_of_getElem? (i := 3) rfl)) (by decide) (by decide)) (g := (mkF m 206 #[.val (.int p0), .val (.int p1), .val (.int p2), .val (.int zn), .val (.ref ar3), .val (.ref b5), .val (.long ((zn - (0 : Int32)).toInt64)), .second, .val .null, .val (.int (own_after vs3 (.int (0 : Int32)) zn (0 : Int32))), .val (.long ((zn - (own_after vs3 (.int (0 : Int32)) zn (0 : Int32))).toInt64)), .second, .val .null, .val (.int (own_after vs3 (.int (0 : Int32)) zn (own_after vs3 (.int (0 : Int32)) zn (0 : Int32)))), .val (.long ((zn - (own_after vs3 (.int (0 : Int32)) zn (own_after vs3 (.int (0 : Int32)) zn (0 : Int32)))).toInt64)), .second, .val .null, .unset, .unset, .unset] [(.int (own_after vs3 (.int (0 : Int32)) zn (own_after vs3 (.int (0 : Int32)) zn (0 : Int32)))), (.ref ar3)])) rfl (by rw [hml]; rfl) (argsL := [(.ref ar3), (.int (own_after vs3 (.int (0 : Int32)) zn (own_after vs3 (.int (0 : Int32)) zn (0 : Int32))))]) (rest := []) (lenOf pd_13 rfl) rfl (by show 2 * 0 + _ ≤ _; exact Nat.le_of_eq rfl) (hb hby at_206) (fun _ _ => ⟨rfl, rfl, (by decide : 2 + 0 ≤ _), (by decide : 16 + 0 ≤ _)⟩)
    dsimp only [Pt.U, Pt.locs, Pt.cells, Pt.slots] at X29 l29 y29 z29 st29 hQ29
    subst l29 y29 z29
    obtain ⟨rfl, Nq29, hh29⟩ := hQ29
    have N29 := Fr.app N26 Nq29
    have e29 : T29.heap = T26.heap := hh29
    obtain ⟨cq30, kq30, q30a, q30b, q30c⟩ := isOf hZ e29 E_b5_26
    obtain ⟨_, _, ⟨T30, L30, k30, n30⟩, -, X30, ⟨Lc30, hQ30, l30, y30, z30⟩, st30⟩ := X29.virtualBack hx (y := (⟨"quorumkeep/store/Messages$Reader", "mostMessagesLeft", "()J"⟩ : MethodName)) (z := (⟨"quorumkeep/store/Messages$Reader", "mostMessagesLeft", "()J"⟩ : MethodName)) hown (mvT hZ (hw _ (List.mem_of_getElem? (i := 31) rfl))) (mvT hZ (hw _ (List.mem_of_getElem? (i := 32) rfl))) (notFace_of_selects (args := #[]) (mvT hZ (hw _ (List.mem_of_getElem? (i := 34) rfl)))) (mvT hZ (hw _ (List.mem_of_getElem? (i := 34) rfl))) (mvT hZ (hw _ (List.mem_of_getElem? (i := 33) rfl))) (by decide) (backOf (W := 0) (rmmm l Z a0 hw [] b5 zn (own_after vs3 (.int (0 : Int32)) zn (own_after vs3 (.int (0 : Int32)) zn (own_after vs3 (.int (0 : Int32)) zn (0 : Int32)))) T26.heap n0 Z27 F_length_26 F_end_26 F_start_26 F_read_26 (own_z0 hz)) hZ (hw _ (List.mem_of_getElem? (i := 35) rfl)) (hw _ (List.mem_of_getElem? (i := 8) rfl)) (by decide) (by decide)) q30a q30c (g := (mkF m 213 #[.val (.int p0), .val (.int p1), .val (.int p2), .val (.int zn), .val (.ref ar3), .val (.ref b5), .val (.long ((zn - (0 : Int32)).toInt64)), .second, .val .null, .val (.int (own_after vs3 (.int (0 : Int32)) zn (0 : Int32))), .val (.long ((zn - (own_after vs3 (.int (0 : Int32)) zn (0 : Int32))).toInt64)), .second, .val .null, .val (.int (own_after vs3 (.int (0 : Int32)) zn (own_after vs3 (.int (0 : Int32)) zn (0 : Int32)))), .val (.long ((zn - (own_after vs3 (.int (0 : Int32)) zn (own_after vs3 (.int (0 : Int32)) zn (0 : Int32)))).toInt64)), .second, .val .null, .val (.int (own_after vs3 (.int (0 : Int32)) zn (own_after vs3 (.int (0 : Int32)) zn (own_after vs3 (.int (0 : Int32)) zn (0 : Int32))))), .unset, .unset] [(.ref b5)])) rfl (by rw [hml]; rfl) (Steps.refl _) (argsL := []) (rest := []) (lenOf pd_11 rfl) rfl (by show 2 * 0 + _ ≤ _; exact Nat.le_of_eq rfl) (hb hby at_213) (fun _ _ => ⟨rfl, e29, (by decide : 2 + 0 ≤ _), (by decide : 16 + 0 ≤ _)⟩)
    dsimp only [Pt.U, Pt.locs, Pt.cells, Pt.slots] at X30 l30 y30 z30 st30 hQ30
    subst l30 y30 z30
    obtain ⟨rfl, Nq30, hh30⟩ := hQ30
    have N30 := Fr.app N29 Nq30
    have e30 : T30.heap = T26.heap := hh30
    have pre31 : ∀ t, Steps p.tables e below (T30.setTop (mkF m 234 #[.val (.int p0), .val (.int p1), .val (.int p2), .val (.int zn), .val (.ref ar3), .val (.ref b5), .val (.long ((zn - (0 : Int32)).toInt64)), .second, .val .null, .val (.int (own_after vs3 (.int (0 : Int32)) zn (0 : Int32))), .val (.long ((zn - (own_after vs3 (.int (0 : Int32)) zn (0 : Int32))).toInt64)), .second, .val .null, .val (.int (own_after vs3 (.int (0 : Int32)) zn (own_after vs3 (.int (0 : Int32)) zn (0 : Int32)))), .val (.long ((zn - (own_after vs3 (.int (0 : Int32)) zn (own_after vs3 (.int (0 : Int32)) zn (0 : Int32)))).toInt64)), .second, .val .null, .val (.int (own_after vs3 (.int (0 : Int32)) zn (own_after vs3 (.int (0 : Int32)) zn (own_after vs3 (.int (0 : Int32)) zn (0 : Int32))))), .val (.long ((zn - (own_after vs3 (.int (0 : Int32)) zn (own_after vs3 (.int (0 : Int32)) zn (own_after vs3 (.int (0 : Int32)) zn (0 : Int32))))).toInt64)), .second] [(.int (1 : Int32))])) t → Steps p.tables e below (s₁.setTop (entryFrame m #[(.int p0), (.int p1), (.int p2)] maxLocals)) t := fun t k => by
      refine pre14 t ?_
      show Steps p.tables e below (T13.setTop (mkF m 43 #[.val (.int p0), .val (.int p1), .val (.int p2), .val (.int zn), .val (.ref ar3), .val (.ref b5), .val (.long ((zn - (0 : Int32)).toInt64)), .second, .unset, .unset, .unset, .unset, .unset, .unset, .unset, .unset, .unset, .unset, .unset, .unset] [])) _
      refine XS.aload X13.here hx rfl (hb hby at_43) rfl rfl ?_
      show Steps p.tables e below (T13.setTop (mkF m 45 #[.val (.int p0), .val (.int p1), .val (.int p2), .val (.int zn), .val (.ref ar3), .val (.ref b5), .val (.long ((zn - (0 : Int32)).toInt64)), .second, .unset, .unset, .unset, .unset, .unset, .unset, .unset, .unset, .unset, .unset, .unset, .unset] [(.ref b5)])) _
      refine st16.trans ?_
      show Steps p.tables e below (T16.setTop (mkF m 48 #[.val (.int p0), .val (.int p1), .val (.int p2), .val (.int zn), .val (.ref ar3), .val (.ref b5), .val (.long ((zn - (0 : Int32)).toInt64)), .second, .unset, .unset, .unset, .unset, .unset, .unset, .unset, .unset, .unset, .unset, .unset, .unset] [.null])) _
      refine XS.astore X16.here hx rfl (hb hby at_48) rfl rfl (l' := #[.val (.int p0), .val (.int p1), .val (.int p2), .val (.int zn), .val (.ref ar3), .val (.ref b5), .val (.long ((zn - (0 : Int32)).toInt64)), .second, .val .null, .unset, .unset, .unset, .unset, .unset, .unset, .unset, .unset, .unset, .unset, .unset]) rfl ?_
      show Steps p.tables e below (T16.setTop (mkF m 50 #[.val (.int p0), .val (.int p1), .val (.int p2), .val (.int zn), .val (.ref ar3), .val (.ref b5), .val (.long ((zn - (0 : Int32)).toInt64)), .second, .val .null, .unset, .unset, .unset, .unset, .unset, .unset, .unset, .unset, .unset, .unset, .unset] [])) _
      refine XS.aload X16.here hx rfl (hb hby at_50) rfl rfl ?_
      show Steps p.tables e below (T16.setTop (mkF m 52 #[.val (.int p0), .val (.int p1), .val (.int p2), .val (.int zn), .val (.ref ar3), .val (.ref b5), .val (.long ((zn - (0 : Int32)).toInt64)), .second, .val .null, .unset, .unset, .unset, .unset, .unset, .unset, .unset, .unset, .unset, .unset, .unset] [.null])) _
      refine XS.ifnonnullNo X16.here hx rfl (hb hby at_52) rfl ?_
      show Steps p.tables e below (T16.setTop (mkF m 55 #[.val (.int p0), .val (.int p1), .val (.int p2), .val (.int zn), .val (.ref ar3), .val (.ref b5), .val (.long ((zn - (0 : Int32)).toInt64)), .second, .val .null, .unset, .unset, .unset, .unset, .unset, .unset, .unset, .unset, .unset, .unset, .unset] [])) _
      refine XS.iconst X16.here hx rfl (hb hby at_55) ?_
      show Steps p.tables e below (T16.setTop (mkF m 56 #[.val (.int p0), .val (.int p1), .val (.int p2), .val (.int zn), .val (.ref ar3), .val (.ref b5), .val (.long ((zn - (0 : Int32)).toInt64)), .second, .val .null, .unset, .unset, .unset, .unset, .unset, .unset, .unset, .unset, .unset, .unset, .unset] [(.int (1 : Int32))])) _
      refine XS.goto X16.here hx rfl (pc0 := 56) (pc' := 60) rfl (hb hby at_56) (by decide) (by decide) ?_
      show Steps p.tables e below (T16.setTop (mkF m 60 #[.val (.int p0), .val (.int p1), .val (.int p2), .val (.int zn), .val (.ref ar3), .val (.ref b5), .val (.long ((zn - (0 : Int32)).toInt64)), .second, .val .null, .unset, .unset, .unset, .unset, .unset, .unset, .unset, .unset, .unset, .unset, .unset] [(.int (1 : Int32))])) _
      refine XS.lload X16.here hx rfl (hb hby at_60) rfl ?_
      show Steps p.tables e below (T16.setTop (mkF m 62 #[.val (.int p0), .val (.int p1), .val (.int p2), .val (.int zn), .val (.ref ar3), .val (.ref b5), .val (.long ((zn - (0 : Int32)).toInt64)), .second, .val .null, .unset, .unset, .unset, .unset, .unset, .unset, .unset, .unset, .unset, .unset, .unset] [(.long ((zn - (0 : Int32)).toInt64)), (.int (1 : Int32))])) _
      refine XS.lconst X16.here hx rfl (hb hby at_62) ?_
      show Steps p.tables e below (T16.setTop (mkF m 63 #[.val (.int p0), .val (.int p1), .val (.int p2), .val (.int zn), .val (.ref ar3), .val (.ref b5), .val (.long ((zn - (0 : Int32)).toInt64)), .second, .val .null, .unset, .unset, .unset, .unset, .unset, .unset, .unset, .unset, .unset, .unset, .unset] [(.long (0 : Int64)), (.long ((zn - (0 : Int32)).toInt64)), (.int (1 : Int32))])) _
      refine XS.lcmp X16.here hx rfl (hb hby at_63) rfl ?_
      show Steps p.tables e below (T16.setTop (mkF m 64 #[.val (.int p0), .val (.int p1), .val (.int p2), .val (.int zn), .val (.ref ar3), .val (.ref b5), .val (.long ((zn - (0 : Int32)).toInt64)), .second, .val .null, .unset, .unset, .unset, .unset, .unset, .unset, .unset, .unset, .unset, .unset, .unset] [(.int (lcmpW ((zn - (0 : Int32)).toInt64) (0 : Int64))), (.int (1 : Int32))])) _
      refine XS.ifNo X16.here hx rfl (hb hby at_64) rfl ((if0 _ _).trans (teq (own_lz hs_15 : (lcmpW ((zn - (0 : Int32)).toInt64) (0 : Int64)) = (0 : Int32))).2) ?_
      show Steps p.tables e below (T16.setTop (mkF m 67 #[.val (.int p0), .val (.int p1), .val (.int p2), .val (.int zn), .val (.ref ar3), .val (.ref b5), .val (.long ((zn - (0 : Int32)).toInt64)), .second, .val .null, .unset, .unset, .unset, .unset, .unset, .unset, .unset, .unset, .unset, .unset, .unset] [(.int (1 : Int32))])) _
      refine XS.iconst X16.here hx rfl (hb hby at_67) ?_
      show Steps p.tables e below (T16.setTop (mkF m 68 #[.val (.int p0), .val (.int p1), .val (.int p2), .val (.int zn), .val (.ref ar3), .val (.ref b5), .val (.long ((zn - (0 : Int32)).toInt64)), .second, .val .null, .unset, .unset, .unset, .unset, .unset, .unset, .unset, .unset, .unset, .unset, .unset] [(.int (1 : Int32)), (.int (1 : Int32))])) _
      refine XS.goto X16.here hx rfl (pc0 := 68) (pc' := 72) rfl (hb hby at_68) (by decide) (by decide) ?_
      show Steps p.tables e below (T16.setTop (mkF m 72 #[.val (.int p0), .val (.int p1), .val (.int p2), .val (.int zn), .val (.ref ar3), .val (.ref b5), .val (.long ((zn - (0 : Int32)).toInt64)), .second, .val .null, .unset, .unset, .unset, .unset, .unset, .unset, .unset, .unset, .unset, .unset, .unset] [(.int (1 : Int32)), (.int (1 : Int32))])) _
      refine XS.icmpYes X16.here hx rfl (pc0 := 72) (pc' := 77) rfl (hb hby at_72) rfl (teq (by decide : (1 : Int32) = (1 : Int32))).1 (by decide) (by decide) ?_
      show Steps p.tables e below (T16.setTop (mkF m 77 #[.val (.int p0), .val (.int p1), .val (.int p2), .val (.int zn), .val (.ref ar3), .val (.ref b5), .val (.long ((zn - (0 : Int32)).toInt64)), .second, .val .null, .unset, .unset, .unset, .unset, .unset, .unset, .unset, .unset, .unset, .unset, .unset] [])) _
      refine XS.aload X16.here hx rfl (hb hby at_77) rfl rfl ?_
      show Steps p.tables e below (T16.setTop (mkF m 79 #[.val (.int p0), .val (.int p1), .val (.int p2), .val (.int zn), .val (.ref ar3), .val (.ref b5), .val (.long ((zn - (0 : Int32)).toInt64)), .second, .val .null, .unset, .unset, .unset, .unset, .unset, .unset, .unset, .unset, .unset, .unset, .unset] [(.ref ar3)])) _
      refine XS.iconst X16.here hx rfl (hb hby at_79) ?_
      show Steps p.tables e below (T16.setTop (mkF m 80 #[.val (.int p0), .val (.int p1), .val (.int p2), .val (.int zn), .val (.ref ar3), .val (.ref b5), .val (.long ((zn - (0 : Int32)).toInt64)), .second, .val .null, .unset, .unset, .unset, .unset, .unset, .unset, .unset, .unset, .unset, .unset, .unset] [(.int (0 : Int32)), (.ref ar3)])) _
      refine st19 _ ?_
      show Steps p.tables e below (T19.setTop (mkF m 83 #[.val (.int p0), .val (.int p1), .val (.int p2), .val (.int zn), .val (.ref ar3), .val (.ref b5), .val (.long ((zn - (0 : Int32)).toInt64)), .second, .val .null, .unset, .unset, .unset, .unset, .unset, .unset, .unset, .unset, .unset, .unset, .unset] [(.int (own_after vs3 (.int (0 : Int32)) zn (0 : Int32)))])) _
      refine XS.istore X19.here hx rfl (hb hby at_83) rfl (l' := #[.val (.int p0), .val (.int p1), .val (.int p2), .val (.int zn), .val (.ref ar3), .val (.ref b5), .val (.long ((zn - (0 : Int32)).toInt64)), .second, .val .null, .val (.int (own_after vs3 (.int (0 : Int32)) zn (0 : Int32))), .unset, .unset, .unset, .unset, .unset, .unset, .unset, .unset, .unset, .unset]) rfl ?_
      show Steps p.tables e below (T19.setTop (mkF m 85 #[.val (.int p0), .val (.int p1), .val (.int p2), .val (.int zn), .val (.ref ar3), .val (.ref b5), .val (.long ((zn - (0 : Int32)).toInt64)), .second, .val .null, .val (.int (own_after vs3 (.int (0 : Int32)) zn (0 : Int32))), .unset, .unset, .unset, .unset, .unset, .unset, .unset, .unset, .unset, .unset] [])) _
      refine XS.aload X19.here hx rfl (hb hby at_85) rfl rfl ?_
      show Steps p.tables e below (T19.setTop (mkF m 87 #[.val (.int p0), .val (.int p1), .val (.int p2), .val (.int zn), .val (.ref ar3), .val (.ref b5), .val (.long ((zn - (0 : Int32)).toInt64)), .second, .val .null, .val (.int (own_after vs3 (.int (0 : Int32)) zn (0 : Int32))), .unset, .unset, .unset, .unset, .unset, .unset, .unset, .unset, .unset, .unset] [(.ref b5)])) _
      refine st20.trans ?_
      show Steps p.tables e below (T20.setTop (mkF m 90 #[.val (.int p0), .val (.int p1), .val (.int p2), .val (.int zn), .val (.ref ar3), .val (.ref b5), .val (.long ((zn - (0 : Int32)).toInt64)), .second, .val .null, .val (.int (own_after vs3 (.int (0 : Int32)) zn (0 : Int32))), .unset, .unset, .unset, .unset, .unset, .unset, .unset, .unset, .unset, .unset] [(.long ((zn - (own_after vs3 (.int (0 : Int32)) zn (0 : Int32))).toInt64))])) _
      refine XS.lstore X20.here hx rfl (hb hby at_90) rfl (l' := #[.val (.int p0), .val (.int p1), .val (.int p2), .val (.int zn), .val (.ref ar3), .val (.ref b5), .val (.long ((zn - (0 : Int32)).toInt64)), .second, .val .null, .val (.int (own_after vs3 (.int (0 : Int32)) zn (0 : Int32))), .val (.long ((zn - (own_after vs3 (.int (0 : Int32)) zn (0 : Int32))).toInt64)), .second, .unset, .unset, .unset, .unset, .unset, .unset, .unset, .unset]) rfl ?_
      show Steps p.tables e below (T20.setTop (mkF m 92 #[.val (.int p0), .val (.int p1), .val (.int p2), .val (.int zn), .val (.ref ar3), .val (.ref b5), .val (.long ((zn - (0 : Int32)).toInt64)), .second, .val .null, .val (.int (own_after vs3 (.int (0 : Int32)) zn (0 : Int32))), .val (.long ((zn - (own_after vs3 (.int (0 : Int32)) zn (0 : Int32))).toInt64)), .second, .unset, .unset, .unset, .unset, .unset, .unset, .unset, .unset] [])) _
      refine XS.lload X20.here hx rfl (hb hby at_92) rfl ?_
      show Steps p.tables e below (T20.setTop (mkF m 94 #[.val (.int p0), .val (.int p1), .val (.int p2), .val (.int zn), .val (.ref ar3), .val (.ref b5), .val (.long ((zn - (0 : Int32)).toInt64)), .second, .val .null, .val (.int (own_after vs3 (.int (0 : Int32)) zn (0 : Int32))), .val (.long ((zn - (own_after vs3 (.int (0 : Int32)) zn (0 : Int32))).toInt64)), .second, .unset, .unset, .unset, .unset, .unset, .unset, .unset, .unset] [(.long ((zn - (own_after vs3 (.int (0 : Int32)) zn (0 : Int32))).toInt64))])) _
      refine XS.iloadN X20.here hx rfl (hb hby at_94) rfl ?_
      show Steps p.tables e below (T20.setTop (mkF m 95 #[.val (.int p0), .val (.int p1), .val (.int p2), .val (.int zn), .val (.ref ar3), .val (.ref b5), .val (.long ((zn - (0 : Int32)).toInt64)), .second, .val .null, .val (.int (own_after vs3 (.int (0 : Int32)) zn (0 : Int32))), .val (.long ((zn - (own_after vs3 (.int (0 : Int32)) zn (0 : Int32))).toInt64)), .second, .unset, .unset, .unset, .unset, .unset, .unset, .unset, .unset] [(.int zn), (.long ((zn - (own_after vs3 (.int (0 : Int32)) zn (0 : Int32))).toInt64))])) _
      refine XS.iload X20.here hx rfl (hb hby at_95) rfl ?_
      show Steps p.tables e below (T20.setTop (mkF m 97 #[.val (.int p0), .val (.int p1), .val (.int p2), .val (.int zn), .val (.ref ar3), .val (.ref b5), .val (.long ((zn - (0 : Int32)).toInt64)), .second, .val .null, .val (.int (own_after vs3 (.int (0 : Int32)) zn (0 : Int32))), .val (.long ((zn - (own_after vs3 (.int (0 : Int32)) zn (0 : Int32))).toInt64)), .second, .unset, .unset, .unset, .unset, .unset, .unset, .unset, .unset] [(.int (own_after vs3 (.int (0 : Int32)) zn (0 : Int32))), (.int zn), (.long ((zn - (own_after vs3 (.int (0 : Int32)) zn (0 : Int32))).toInt64))])) _
      refine XS.isub X20.here hx rfl (hb hby at_97) rfl ?_
      show Steps p.tables e below (T20.setTop (mkF m 98 #[.val (.int p0), .val (.int p1), .val (.int p2), .val (.int zn), .val (.ref ar3), .val (.ref b5), .val (.long ((zn - (0 : Int32)).toInt64)), .second, .val .null, .val (.int (own_after vs3 (.int (0 : Int32)) zn (0 : Int32))), .val (.long ((zn - (own_after vs3 (.int (0 : Int32)) zn (0 : Int32))).toInt64)), .second, .unset, .unset, .unset, .unset, .unset, .unset, .unset, .unset] [(.int (zn - (own_after vs3 (.int (0 : Int32)) zn (0 : Int32)))), (.long ((zn - (own_after vs3 (.int (0 : Int32)) zn (0 : Int32))).toInt64))])) _
      refine XS.i2l X20.here hx rfl (hb hby at_98) rfl ?_
      show Steps p.tables e below (T20.setTop (mkF m 99 #[.val (.int p0), .val (.int p1), .val (.int p2), .val (.int zn), .val (.ref ar3), .val (.ref b5), .val (.long ((zn - (0 : Int32)).toInt64)), .second, .val .null, .val (.int (own_after vs3 (.int (0 : Int32)) zn (0 : Int32))), .val (.long ((zn - (own_after vs3 (.int (0 : Int32)) zn (0 : Int32))).toInt64)), .second, .unset, .unset, .unset, .unset, .unset, .unset, .unset, .unset] [(.long ((zn - (own_after vs3 (.int (0 : Int32)) zn (0 : Int32))).toInt64)), (.long ((zn - (own_after vs3 (.int (0 : Int32)) zn (0 : Int32))).toInt64))])) _
      refine XS.lcmp X20.here hx rfl (hb hby at_99) rfl ?_
      show Steps p.tables e below (T20.setTop (mkF m 100 #[.val (.int p0), .val (.int p1), .val (.int p2), .val (.int zn), .val (.ref ar3), .val (.ref b5), .val (.long ((zn - (0 : Int32)).toInt64)), .second, .val .null, .val (.int (own_after vs3 (.int (0 : Int32)) zn (0 : Int32))), .val (.long ((zn - (own_after vs3 (.int (0 : Int32)) zn (0 : Int32))).toInt64)), .second, .unset, .unset, .unset, .unset, .unset, .unset, .unset, .unset] [(.int (lcmpW ((zn - (own_after vs3 (.int (0 : Int32)) zn (0 : Int32))).toInt64) ((zn - (own_after vs3 (.int (0 : Int32)) zn (0 : Int32))).toInt64)))])) _
      refine XS.ifYes X20.here hx rfl (pc0 := 100) (pc' := 105) rfl (hb hby at_100) rfl ((if0 _ _).trans (teq (own_lc _ : (lcmpW ((zn - (own_after vs3 (.int (0 : Int32)) zn (0 : Int32))).toInt64) ((zn - (own_after vs3 (.int (0 : Int32)) zn (0 : Int32))).toInt64)) = (0 : Int32))).1) (by decide) (by decide) ?_
      show Steps p.tables e below (T20.setTop (mkF m 105 #[.val (.int p0), .val (.int p1), .val (.int p2), .val (.int zn), .val (.ref ar3), .val (.ref b5), .val (.long ((zn - (0 : Int32)).toInt64)), .second, .val .null, .val (.int (own_after vs3 (.int (0 : Int32)) zn (0 : Int32))), .val (.long ((zn - (own_after vs3 (.int (0 : Int32)) zn (0 : Int32))).toInt64)), .second, .unset, .unset, .unset, .unset, .unset, .unset, .unset, .unset] [])) _
      refine XS.aload X20.here hx rfl (hb hby at_105) rfl rfl ?_
      show Steps p.tables e below (T20.setTop (mkF m 107 #[.val (.int p0), .val (.int p1), .val (.int p2), .val (.int zn), .val (.ref ar3), .val (.ref b5), .val (.long ((zn - (0 : Int32)).toInt64)), .second, .val .null, .val (.int (own_after vs3 (.int (0 : Int32)) zn (0 : Int32))), .val (.long ((zn - (own_after vs3 (.int (0 : Int32)) zn (0 : Int32))).toInt64)), .second, .unset, .unset, .unset, .unset, .unset, .unset, .unset, .unset] [(.ref b5)])) _
      refine st21.trans ?_
      show Steps p.tables e below (T21.setTop (mkF m 110 #[.val (.int p0), .val (.int p1), .val (.int p2), .val (.int zn), .val (.ref ar3), .val (.ref b5), .val (.long ((zn - (0 : Int32)).toInt64)), .second, .val .null, .val (.int (own_after vs3 (.int (0 : Int32)) zn (0 : Int32))), .val (.long ((zn - (own_after vs3 (.int (0 : Int32)) zn (0 : Int32))).toInt64)), .second, .unset, .unset, .unset, .unset, .unset, .unset, .unset, .unset] [.null])) _
      refine XS.astore X21.here hx rfl (hb hby at_110) rfl rfl (l' := #[.val (.int p0), .val (.int p1), .val (.int p2), .val (.int zn), .val (.ref ar3), .val (.ref b5), .val (.long ((zn - (0 : Int32)).toInt64)), .second, .val .null, .val (.int (own_after vs3 (.int (0 : Int32)) zn (0 : Int32))), .val (.long ((zn - (own_after vs3 (.int (0 : Int32)) zn (0 : Int32))).toInt64)), .second, .val .null, .unset, .unset, .unset, .unset, .unset, .unset, .unset]) rfl ?_
      show Steps p.tables e below (T21.setTop (mkF m 112 #[.val (.int p0), .val (.int p1), .val (.int p2), .val (.int zn), .val (.ref ar3), .val (.ref b5), .val (.long ((zn - (0 : Int32)).toInt64)), .second, .val .null, .val (.int (own_after vs3 (.int (0 : Int32)) zn (0 : Int32))), .val (.long ((zn - (own_after vs3 (.int (0 : Int32)) zn (0 : Int32))).toInt64)), .second, .val .null, .unset, .unset, .unset, .unset, .unset, .unset, .unset] [])) _
      refine XS.aload X21.here hx rfl (hb hby at_112) rfl rfl ?_
      show Steps p.tables e below (T21.setTop (mkF m 114 #[.val (.int p0), .val (.int p1), .val (.int p2), .val (.int zn), .val (.ref ar3), .val (.ref b5), .val (.long ((zn - (0 : Int32)).toInt64)), .second, .val .null, .val (.int (own_after vs3 (.int (0 : Int32)) zn (0 : Int32))), .val (.long ((zn - (own_after vs3 (.int (0 : Int32)) zn (0 : Int32))).toInt64)), .second, .val .null, .unset, .unset, .unset, .unset, .unset, .unset, .unset] [.null])) _
      refine XS.ifnonnullNo X21.here hx rfl (hb hby at_114) rfl ?_
      show Steps p.tables e below (T21.setTop (mkF m 117 #[.val (.int p0), .val (.int p1), .val (.int p2), .val (.int zn), .val (.ref ar3), .val (.ref b5), .val (.long ((zn - (0 : Int32)).toInt64)), .second, .val .null, .val (.int (own_after vs3 (.int (0 : Int32)) zn (0 : Int32))), .val (.long ((zn - (own_after vs3 (.int (0 : Int32)) zn (0 : Int32))).toInt64)), .second, .val .null, .unset, .unset, .unset, .unset, .unset, .unset, .unset] [])) _
      refine XS.iconst X21.here hx rfl (hb hby at_117) ?_
      show Steps p.tables e below (T21.setTop (mkF m 118 #[.val (.int p0), .val (.int p1), .val (.int p2), .val (.int zn), .val (.ref ar3), .val (.ref b5), .val (.long ((zn - (0 : Int32)).toInt64)), .second, .val .null, .val (.int (own_after vs3 (.int (0 : Int32)) zn (0 : Int32))), .val (.long ((zn - (own_after vs3 (.int (0 : Int32)) zn (0 : Int32))).toInt64)), .second, .val .null, .unset, .unset, .unset, .unset, .unset, .unset, .unset] [(.int (1 : Int32))])) _
      refine XS.goto X21.here hx rfl (pc0 := 118) (pc' := 122) rfl (hb hby at_118) (by decide) (by decide) ?_
      show Steps p.tables e below (T21.setTop (mkF m 122 #[.val (.int p0), .val (.int p1), .val (.int p2), .val (.int zn), .val (.ref ar3), .val (.ref b5), .val (.long ((zn - (0 : Int32)).toInt64)), .second, .val .null, .val (.int (own_after vs3 (.int (0 : Int32)) zn (0 : Int32))), .val (.long ((zn - (own_after vs3 (.int (0 : Int32)) zn (0 : Int32))).toInt64)), .second, .val .null, .unset, .unset, .unset, .unset, .unset, .unset, .unset] [(.int (1 : Int32))])) _
      refine XS.lload X21.here hx rfl (hb hby at_122) rfl ?_
      show Steps p.tables e below (T21.setTop (mkF m 124 #[.val (.int p0), .val (.int p1), .val (.int p2), .val (.int zn), .val (.ref ar3), .val (.ref b5), .val (.long ((zn - (0 : Int32)).toInt64)), .second, .val .null, .val (.int (own_after vs3 (.int (0 : Int32)) zn (0 : Int32))), .val (.long ((zn - (own_after vs3 (.int (0 : Int32)) zn (0 : Int32))).toInt64)), .second, .val .null, .unset, .unset, .unset, .unset, .unset, .unset, .unset] [(.long ((zn - (own_after vs3 (.int (0 : Int32)) zn (0 : Int32))).toInt64)), (.int (1 : Int32))])) _
      refine XS.lconst X21.here hx rfl (hb hby at_124) ?_
      show Steps p.tables e below (T21.setTop (mkF m 125 #[.val (.int p0), .val (.int p1), .val (.int p2), .val (.int zn), .val (.ref ar3), .val (.ref b5), .val (.long ((zn - (0 : Int32)).toInt64)), .second, .val .null, .val (.int (own_after vs3 (.int (0 : Int32)) zn (0 : Int32))), .val (.long ((zn - (own_after vs3 (.int (0 : Int32)) zn (0 : Int32))).toInt64)), .second, .val .null, .unset, .unset, .unset, .unset, .unset, .unset, .unset] [(.long (0 : Int64)), (.long ((zn - (own_after vs3 (.int (0 : Int32)) zn (0 : Int32))).toInt64)), (.int (1 : Int32))])) _
      refine XS.lcmp X21.here hx rfl (hb hby at_125) rfl ?_
      show Steps p.tables e below (T21.setTop (mkF m 126 #[.val (.int p0), .val (.int p1), .val (.int p2), .val (.int zn), .val (.ref ar3), .val (.ref b5), .val (.long ((zn - (0 : Int32)).toInt64)), .second, .val .null, .val (.int (own_after vs3 (.int (0 : Int32)) zn (0 : Int32))), .val (.long ((zn - (own_after vs3 (.int (0 : Int32)) zn (0 : Int32))).toInt64)), .second, .val .null, .unset, .unset, .unset, .unset, .unset, .unset, .unset] [(.int (lcmpW ((zn - (own_after vs3 (.int (0 : Int32)) zn (0 : Int32))).toInt64) (0 : Int64))), (.int (1 : Int32))])) _
      refine XS.ifNo X21.here hx rfl (hb hby at_126) rfl ((if0 _ _).trans (teq (own_lz hs16 : (lcmpW ((zn - (own_after vs3 (.int (0 : Int32)) zn (0 : Int32))).toInt64) (0 : Int64)) = (0 : Int32))).2) ?_
      show Steps p.tables e below (T21.setTop (mkF m 129 #[.val (.int p0), .val (.int p1), .val (.int p2), .val (.int zn), .val (.ref ar3), .val (.ref b5), .val (.long ((zn - (0 : Int32)).toInt64)), .second, .val .null, .val (.int (own_after vs3 (.int (0 : Int32)) zn (0 : Int32))), .val (.long ((zn - (own_after vs3 (.int (0 : Int32)) zn (0 : Int32))).toInt64)), .second, .val .null, .unset, .unset, .unset, .unset, .unset, .unset, .unset] [(.int (1 : Int32))])) _
      refine XS.iconst X21.here hx rfl (hb hby at_129) ?_
      show Steps p.tables e below (T21.setTop (mkF m 130 #[.val (.int p0), .val (.int p1), .val (.int p2), .val (.int zn), .val (.ref ar3), .val (.ref b5), .val (.long ((zn - (0 : Int32)).toInt64)), .second, .val .null, .val (.int (own_after vs3 (.int (0 : Int32)) zn (0 : Int32))), .val (.long ((zn - (own_after vs3 (.int (0 : Int32)) zn (0 : Int32))).toInt64)), .second, .val .null, .unset, .unset, .unset, .unset, .unset, .unset, .unset] [(.int (1 : Int32)), (.int (1 : Int32))])) _
      refine XS.goto X21.here hx rfl (pc0 := 130) (pc' := 134) rfl (hb hby at_130) (by decide) (by decide) ?_
      show Steps p.tables e below (T21.setTop (mkF m 134 #[.val (.int p0), .val (.int p1), .val (.int p2), .val (.int zn), .val (.ref ar3), .val (.ref b5), .val (.long ((zn - (0 : Int32)).toInt64)), .second, .val .null, .val (.int (own_after vs3 (.int (0 : Int32)) zn (0 : Int32))), .val (.long ((zn - (own_after vs3 (.int (0 : Int32)) zn (0 : Int32))).toInt64)), .second, .val .null, .unset, .unset, .unset, .unset, .unset, .unset, .unset] [(.int (1 : Int32)), (.int (1 : Int32))])) _
      refine XS.icmpYes X21.here hx rfl (pc0 := 134) (pc' := 139) rfl (hb hby at_134) rfl (teq (by decide : (1 : Int32) = (1 : Int32))).1 (by decide) (by decide) ?_
      show Steps p.tables e below (T21.setTop (mkF m 139 #[.val (.int p0), .val (.int p1), .val (.int p2), .val (.int zn), .val (.ref ar3), .val (.ref b5), .val (.long ((zn - (0 : Int32)).toInt64)), .second, .val .null, .val (.int (own_after vs3 (.int (0 : Int32)) zn (0 : Int32))), .val (.long ((zn - (own_after vs3 (.int (0 : Int32)) zn (0 : Int32))).toInt64)), .second, .val .null, .unset, .unset, .unset, .unset, .unset, .unset, .unset] [])) _
      refine XS.aload X21.here hx rfl (hb hby at_139) rfl rfl ?_
      show Steps p.tables e below (T21.setTop (mkF m 141 #[.val (.int p0), .val (.int p1), .val (.int p2), .val (.int zn), .val (.ref ar3), .val (.ref b5), .val (.long ((zn - (0 : Int32)).toInt64)), .second, .val .null, .val (.int (own_after vs3 (.int (0 : Int32)) zn (0 : Int32))), .val (.long ((zn - (own_after vs3 (.int (0 : Int32)) zn (0 : Int32))).toInt64)), .second, .val .null, .unset, .unset, .unset, .unset, .unset, .unset, .unset] [(.ref ar3)])) _
      refine XS.iload X21.here hx rfl (hb hby at_141) rfl ?_
      show Steps p.tables e below (T21.setTop (mkF m 143 #[.val (.int p0), .val (.int p1), .val (.int p2), .val (.int zn), .val (.ref ar3), .val (.ref b5), .val (.long ((zn - (0 : Int32)).toInt64)), .second, .val .null, .val (.int (own_after vs3 (.int (0 : Int32)) zn (0 : Int32))), .val (.long ((zn - (own_after vs3 (.int (0 : Int32)) zn (0 : Int32))).toInt64)), .second, .val .null, .unset, .unset, .unset, .unset, .unset, .unset, .unset] [(.int (own_after vs3 (.int (0 : Int32)) zn (0 : Int32))), (.ref ar3)])) _
      refine st24 _ ?_
      show Steps p.tables e below (T24.setTop (mkF m 146 #[.val (.int p0), .val (.int p1), .val (.int p2), .val (.int zn), .val (.ref ar3), .val (.ref b5), .val (.long ((zn - (0 : Int32)).toInt64)), .second, .val .null, .val (.int (own_after vs3 (.int (0 : Int32)) zn (0 : Int32))), .val (.long ((zn - (own_after vs3 (.int (0 : Int32)) zn (0 : Int32))).toInt64)), .second, .val .null, .unset, .unset, .unset, .unset, .unset, .unset, .unset] [(.int (own_after vs3 (.int (0 : Int32)) zn (own_after vs3 (.int (0 : Int32)) zn (0 : Int32))))])) _
      refine XS.istore X24.here hx rfl (hb hby at_146) rfl (l' := #[.val (.int p0), .val (.int p1), .val (.int p2), .val (.int zn), .val (.ref ar3), .val (.ref b5), .val (.long ((zn - (0 : Int32)).toInt64)), .second, .val .null, .val (.int (own_after vs3 (.int (0 : Int32)) zn (0 : Int32))), .val (.long ((zn - (own_after vs3 (.int (0 : Int32)) zn (0 : Int32))).toInt64)), .second, .val .null, .val (.int (own_after vs3 (.int (0 : Int32)) zn (own_after vs3 (.int (0 : Int32)) zn (0 : Int32)))), .unset, .unset, .unset, .unset, .unset, .unset]) rfl ?_
      show Steps p.tables e below (T24.setTop (mkF m 148 #[.val (.int p0), .val (.int p1), .val (.int p2), .val (.int zn), .val (.ref ar3), .val (.ref b5), .val (.long ((zn - (0 : Int32)).toInt64)), .second, .val .null, .val (.int (own_after vs3 (.int (0 : Int32)) zn (0 : Int32))), .val (.long ((zn - (own_after vs3 (.int (0 : Int32)) zn (0 : Int32))).toInt64)), .second, .val .null, .val (.int (own_after vs3 (.int (0 : Int32)) zn (own_after vs3 (.int (0 : Int32)) zn (0 : Int32)))), .unset, .unset, .unset, .unset, .unset, .unset] [])) _
      refine XS.aload X24.here hx rfl (hb hby at_148) rfl rfl ?_
      show Steps p.tables e below (T24.setTop (mkF m 150 #[.val (.int p0), .val (.int p1), .val (.int p2), .val (.int zn), .val (.ref ar3), .val (.ref b5), .val (.long ((zn - (0 : Int32)).toInt64)), .second, .val .null, .val (.int (own_after vs3 (.int (0 : Int32)) zn (0 : Int32))), .val (.long ((zn - (own_after vs3 (.int (0 : Int32)) zn (0 : Int32))).toInt64)), .second, .val .null, .val (.int (own_after vs3 (.int (0 : Int32)) zn (own_after vs3 (.int (0 : Int32)) zn (0 : Int32)))), .unset, .unset, .unset, .unset, .unset, .unset] [(.ref b5)])) _
      refine st25.trans ?_
      show Steps p.tables e below (T25.setTop (mkF m 153 #[.val (.int p0), .val (.int p1), .val (.int p2), .val (.int zn), .val (.ref ar3), .val (.ref b5), .val (.long ((zn - (0 : Int32)).toInt64)), .second, .val .null, .val (.int (own_after vs3 (.int (0 : Int32)) zn (0 : Int32))), .val (.long ((zn - (own_after vs3 (.int (0 : Int32)) zn (0 : Int32))).toInt64)), .second, .val .null, .val (.int (own_after vs3 (.int (0 : Int32)) zn (own_after vs3 (.int (0 : Int32)) zn (0 : Int32)))), .unset, .unset, .unset, .unset, .unset, .unset] [(.long ((zn - (own_after vs3 (.int (0 : Int32)) zn (own_after vs3 (.int (0 : Int32)) zn (0 : Int32)))).toInt64))])) _
      refine XS.lstore X25.here hx rfl (hb hby at_153) rfl (l' := #[.val (.int p0), .val (.int p1), .val (.int p2), .val (.int zn), .val (.ref ar3), .val (.ref b5), .val (.long ((zn - (0 : Int32)).toInt64)), .second, .val .null, .val (.int (own_after vs3 (.int (0 : Int32)) zn (0 : Int32))), .val (.long ((zn - (own_after vs3 (.int (0 : Int32)) zn (0 : Int32))).toInt64)), .second, .val .null, .val (.int (own_after vs3 (.int (0 : Int32)) zn (own_after vs3 (.int (0 : Int32)) zn (0 : Int32)))), .val (.long ((zn - (own_after vs3 (.int (0 : Int32)) zn (own_after vs3 (.int (0 : Int32)) zn (0 : Int32)))).toInt64)), .second, .unset, .unset, .unset, .unset]) rfl ?_
      show Steps p.tables e below (T25.setTop (mkF m 155 #[.val (.int p0), .val (.int p1), .val (.int p2), .val (.int zn), .val (.ref ar3), .val (.ref b5), .val (.long ((zn - (0 : Int32)).toInt64)), .second, .val .null, .val (.int (own_after vs3 (.int (0 : Int32)) zn (0 : Int32))), .val (.long ((zn - (own_after vs3 (.int (0 : Int32)) zn (0 : Int32))).toInt64)), .second, .val .null, .val (.int (own_after vs3 (.int (0 : Int32)) zn (own_after vs3 (.int (0 : Int32)) zn (0 : Int32)))), .val (.long ((zn - (own_after vs3 (.int (0 : Int32)) zn (own_after vs3 (.int (0 : Int32)) zn (0 : Int32)))).toInt64)), .second, .unset, .unset, .unset, .unset] [])) _
      refine XS.lload X25.here hx rfl (hb hby at_155) rfl ?_
      show Steps p.tables e below (T25.setTop (mkF m 157 #[.val (.int p0), .val (.int p1), .val (.int p2), .val (.int zn), .val (.ref ar3), .val (.ref b5), .val (.long ((zn - (0 : Int32)).toInt64)), .second, .val .null, .val (.int (own_after vs3 (.int (0 : Int32)) zn (0 : Int32))), .val (.long ((zn - (own_after vs3 (.int (0 : Int32)) zn (0 : Int32))).toInt64)), .second, .val .null, .val (.int (own_after vs3 (.int (0 : Int32)) zn (own_after vs3 (.int (0 : Int32)) zn (0 : Int32)))), .val (.long ((zn - (own_after vs3 (.int (0 : Int32)) zn (own_after vs3 (.int (0 : Int32)) zn (0 : Int32)))).toInt64)), .second, .unset, .unset, .unset, .unset] [(.long ((zn - (own_after vs3 (.int (0 : Int32)) zn (own_after vs3 (.int (0 : Int32)) zn (0 : Int32)))).toInt64))])) _
      refine XS.iloadN X25.here hx rfl (hb hby at_157) rfl ?_
      show Steps p.tables e below (T25.setTop (mkF m 158 #[.val (.int p0), .val (.int p1), .val (.int p2), .val (.int zn), .val (.ref ar3), .val (.ref b5), .val (.long ((zn - (0 : Int32)).toInt64)), .second, .val .null, .val (.int (own_after vs3 (.int (0 : Int32)) zn (0 : Int32))), .val (.long ((zn - (own_after vs3 (.int (0 : Int32)) zn (0 : Int32))).toInt64)), .second, .val .null, .val (.int (own_after vs3 (.int (0 : Int32)) zn (own_after vs3 (.int (0 : Int32)) zn (0 : Int32)))), .val (.long ((zn - (own_after vs3 (.int (0 : Int32)) zn (own_after vs3 (.int (0 : Int32)) zn (0 : Int32)))).toInt64)), .second, .unset, .unset, .unset, .unset] [(.int zn), (.long ((zn - (own_after vs3 (.int (0 : Int32)) zn (own_after vs3 (.int (0 : Int32)) zn (0 : Int32)))).toInt64))])) _
      refine XS.iload X25.here hx rfl (hb hby at_158) rfl ?_
      show Steps p.tables e below (T25.setTop (mkF m 160 #[.val (.int p0), .val (.int p1), .val (.int p2), .val (.int zn), .val (.ref ar3), .val (.ref b5), .val (.long ((zn - (0 : Int32)).toInt64)), .second, .val .null, .val (.int (own_after vs3 (.int (0 : Int32)) zn (0 : Int32))), .val (.long ((zn - (own_after vs3 (.int (0 : Int32)) zn (0 : Int32))).toInt64)), .second, .val .null, .val (.int (own_after vs3 (.int (0 : Int32)) zn (own_after vs3 (.int (0 : Int32)) zn (0 : Int32)))), .val (.long ((zn - (own_after vs3 (.int (0 : Int32)) zn (own_after vs3 (.int (0 : Int32)) zn (0 : Int32)))).toInt64)), .second, .unset, .unset, .unset, .unset] [(.int (own_after vs3 (.int (0 : Int32)) zn (own_after vs3 (.int (0 : Int32)) zn (0 : Int32)))), (.int zn), (.long ((zn - (own_after vs3 (.int (0 : Int32)) zn (own_after vs3 (.int (0 : Int32)) zn (0 : Int32)))).toInt64))])) _
      refine XS.isub X25.here hx rfl (hb hby at_160) rfl ?_
      show Steps p.tables e below (T25.setTop (mkF m 161 #[.val (.int p0), .val (.int p1), .val (.int p2), .val (.int zn), .val (.ref ar3), .val (.ref b5), .val (.long ((zn - (0 : Int32)).toInt64)), .second, .val .null, .val (.int (own_after vs3 (.int (0 : Int32)) zn (0 : Int32))), .val (.long ((zn - (own_after vs3 (.int (0 : Int32)) zn (0 : Int32))).toInt64)), .second, .val .null, .val (.int (own_after vs3 (.int (0 : Int32)) zn (own_after vs3 (.int (0 : Int32)) zn (0 : Int32)))), .val (.long ((zn - (own_after vs3 (.int (0 : Int32)) zn (own_after vs3 (.int (0 : Int32)) zn (0 : Int32)))).toInt64)), .second, .unset, .unset, .unset, .unset] [(.int (zn - (own_after vs3 (.int (0 : Int32)) zn (own_after vs3 (.int (0 : Int32)) zn (0 : Int32))))), (.long ((zn - (own_after vs3 (.int (0 : Int32)) zn (own_after vs3 (.int (0 : Int32)) zn (0 : Int32)))).toInt64))])) _
      refine XS.i2l X25.here hx rfl (hb hby at_161) rfl ?_
      show Steps p.tables e below (T25.setTop (mkF m 162 #[.val (.int p0), .val (.int p1), .val (.int p2), .val (.int zn), .val (.ref ar3), .val (.ref b5), .val (.long ((zn - (0 : Int32)).toInt64)), .second, .val .null, .val (.int (own_after vs3 (.int (0 : Int32)) zn (0 : Int32))), .val (.long ((zn - (own_after vs3 (.int (0 : Int32)) zn (0 : Int32))).toInt64)), .second, .val .null, .val (.int (own_after vs3 (.int (0 : Int32)) zn (own_after vs3 (.int (0 : Int32)) zn (0 : Int32)))), .val (.long ((zn - (own_after vs3 (.int (0 : Int32)) zn (own_after vs3 (.int (0 : Int32)) zn (0 : Int32)))).toInt64)), .second, .unset, .unset, .unset, .unset] [(.long ((zn - (own_after vs3 (.int (0 : Int32)) zn (own_after vs3 (.int (0 : Int32)) zn (0 : Int32)))).toInt64)), (.long ((zn - (own_after vs3 (.int (0 : Int32)) zn (own_after vs3 (.int (0 : Int32)) zn (0 : Int32)))).toInt64))])) _
      refine XS.lcmp X25.here hx rfl (hb hby at_162) rfl ?_
      show Steps p.tables e below (T25.setTop (mkF m 163 #[.val (.int p0), .val (.int p1), .val (.int p2), .val (.int zn), .val (.ref ar3), .val (.ref b5), .val (.long ((zn - (0 : Int32)).toInt64)), .second, .val .null, .val (.int (own_after vs3 (.int (0 : Int32)) zn (0 : Int32))), .val (.long ((zn - (own_after vs3 (.int (0 : Int32)) zn (0 : Int32))).toInt64)), .second, .val .null, .val (.int (own_after vs3 (.int (0 : Int32)) zn (own_after vs3 (.int (0 : Int32)) zn (0 : Int32)))), .val (.long ((zn - (own_after vs3 (.int (0 : Int32)) zn (own_after vs3 (.int (0 : Int32)) zn (0 : Int32)))).toInt64)), .second, .unset, .unset, .unset, .unset] [(.int (lcmpW ((zn - (own_after vs3 (.int (0 : Int32)) zn (own_after vs3 (.int (0 : Int32)) zn (0 : Int32)))).toInt64) ((zn - (own_after vs3 (.int (0 : Int32)) zn (own_after vs3 (.int (0 : Int32)) zn (0 : Int32)))).toInt64)))])) _
      refine XS.ifYes X25.here hx rfl (pc0 := 163) (pc' := 168) rfl (hb hby at_163) rfl ((if0 _ _).trans (teq (own_lc _ : (lcmpW ((zn - (own_after vs3 (.int (0 : Int32)) zn (own_after vs3 (.int (0 : Int32)) zn (0 : Int32)))).toInt64) ((zn - (own_after vs3 (.int (0 : Int32)) zn (own_after vs3 (.int (0 : Int32)) zn (0 : Int32)))).toInt64)) = (0 : Int32))).1) (by decide) (by decide) ?_
      show Steps p.tables e below (T25.setTop (mkF m 168 #[.val (.int p0), .val (.int p1), .val (.int p2), .val (.int zn), .val (.ref ar3), .val (.ref b5), .val (.long ((zn - (0 : Int32)).toInt64)), .second, .val .null, .val (.int (own_after vs3 (.int (0 : Int32)) zn (0 : Int32))), .val (.long ((zn - (own_after vs3 (.int (0 : Int32)) zn (0 : Int32))).toInt64)), .second, .val .null, .val (.int (own_after vs3 (.int (0 : Int32)) zn (own_after vs3 (.int (0 : Int32)) zn (0 : Int32)))), .val (.long ((zn - (own_after vs3 (.int (0 : Int32)) zn (own_after vs3 (.int (0 : Int32)) zn (0 : Int32)))).toInt64)), .second, .unset, .unset, .unset, .unset] [])) _
      refine XS.aload X25.here hx rfl (hb hby at_168) rfl rfl ?_
      show Steps p.tables e below (T25.setTop (mkF m 170 #[.val (.int p0), .val (.int p1), .val (.int p2), .val (.int zn), .val (.ref ar3), .val (.ref b5), .val (.long ((zn - (0 : Int32)).toInt64)), .second, .val .null, .val (.int (own_after vs3 (.int (0 : Int32)) zn (0 : Int32))), .val (.long ((zn - (own_after vs3 (.int (0 : Int32)) zn (0 : Int32))).toInt64)), .second, .val .null, .val (.int (own_after vs3 (.int (0 : Int32)) zn (own_after vs3 (.int (0 : Int32)) zn (0 : Int32)))), .val (.long ((zn - (own_after vs3 (.int (0 : Int32)) zn (own_after vs3 (.int (0 : Int32)) zn (0 : Int32)))).toInt64)), .second, .unset, .unset, .unset, .unset] [(.ref b5)])) _
      refine st26.trans ?_
      show Steps p.tables e below (T26.setTop (mkF m 173 #[.val (.int p0), .val (.int p1), .val (.int p2), .val (.int zn), .val (.ref ar3), .val (.ref b5), .val (.long ((zn - (0 : Int32)).toInt64)), .second, .val .null, .val (.int (own_after vs3 (.int (0 : Int32)) zn (0 : Int32))), .val (.long ((zn - (own_after vs3 (.int (0 : Int32)) zn (0 : Int32))).toInt64)), .second, .val .null, .val (.int (own_after vs3 (.int (0 : Int32)) zn (own_after vs3 (.int (0 : Int32)) zn (0 : Int32)))), .val (.long ((zn - (own_after vs3 (.int (0 : Int32)) zn (own_after vs3 (.int (0 : Int32)) zn (0 : Int32)))).toInt64)), .second, .unset, .unset, .unset, .unset] [.null])) _
      refine XS.astore X26.here hx rfl (hb hby at_173) rfl rfl (l' := #[.val (.int p0), .val (.int p1), .val (.int p2), .val (.int zn), .val (.ref ar3), .val (.ref b5), .val (.long ((zn - (0 : Int32)).toInt64)), .second, .val .null, .val (.int (own_after vs3 (.int (0 : Int32)) zn (0 : Int32))), .val (.long ((zn - (own_after vs3 (.int (0 : Int32)) zn (0 : Int32))).toInt64)), .second, .val .null, .val (.int (own_after vs3 (.int (0 : Int32)) zn (own_after vs3 (.int (0 : Int32)) zn (0 : Int32)))), .val (.long ((zn - (own_after vs3 (.int (0 : Int32)) zn (own_after vs3 (.int (0 : Int32)) zn (0 : Int32)))).toInt64)), .second, .val .null, .unset, .unset, .unset]) rfl ?_
      show Steps p.tables e below (T26.setTop (mkF m 175 #[.val (.int p0), .val (.int p1), .val (.int p2), .val (.int zn), .val (.ref ar3), .val (.ref b5), .val (.long ((zn - (0 : Int32)).toInt64)), .second, .val .null, .val (.int (own_after vs3 (.int (0 : Int32)) zn (0 : Int32))), .val (.long ((zn - (own_after vs3 (.int (0 : Int32)) zn (0 : Int32))).toInt64)), .second, .val .null, .val (.int (own_after vs3 (.int (0 : Int32)) zn (own_after vs3 (.int (0 : Int32)) zn (0 : Int32)))), .val (.long ((zn - (own_after vs3 (.int (0 : Int32)) zn (own_after vs3 (.int (0 : Int32)) zn (0 : Int32)))).toInt64)), .second, .val .null, .unset, .unset, .unset] [])) _
      refine XS.aload X26.here hx rfl (hb hby at_175) rfl rfl ?_
      show Steps p.tables e below (T26.setTop (mkF m 177 #[.val (.int p0), .val (.int p1), .val (.int p2), .val (.int zn), .val (.ref ar3), .val (.ref b5), .val (.long ((zn - (0 : Int32)).toInt64)), .second, .val .null, .val (.int (own_after vs3 (.int (0 : Int32)) zn (0 : Int32))), .val (.long ((zn - (own_after vs3 (.int (0 : Int32)) zn (0 : Int32))).toInt64)), .second, .val .null, .val (.int (own_after vs3 (.int (0 : Int32)) zn (own_after vs3 (.int (0 : Int32)) zn (0 : Int32)))), .val (.long ((zn - (own_after vs3 (.int (0 : Int32)) zn (own_after vs3 (.int (0 : Int32)) zn (0 : Int32)))).toInt64)), .second, .val .null, .unset, .unset, .unset] [.null])) _
      refine XS.ifnonnullNo X26.here hx rfl (hb hby at_177) rfl ?_
      show Steps p.tables e below (T26.setTop (mkF m 180 #[.val (.int p0), .val (.int p1), .val (.int p2), .val (.int zn), .val (.ref ar3), .val (.ref b5), .val (.long ((zn - (0 : Int32)).toInt64)), .second, .val .null, .val (.int (own_after vs3 (.int (0 : Int32)) zn (0 : Int32))), .val (.long ((zn - (own_after vs3 (.int (0 : Int32)) zn (0 : Int32))).toInt64)), .second, .val .null, .val (.int (own_after vs3 (.int (0 : Int32)) zn (own_after vs3 (.int (0 : Int32)) zn (0 : Int32)))), .val (.long ((zn - (own_after vs3 (.int (0 : Int32)) zn (own_after vs3 (.int (0 : Int32)) zn (0 : Int32)))).toInt64)), .second, .val .null, .unset, .unset, .unset] [])) _
      refine XS.iconst X26.here hx rfl (hb hby at_180) ?_
      show Steps p.tables e below (T26.setTop (mkF m 181 #[.val (.int p0), .val (.int p1), .val (.int p2), .val (.int zn), .val (.ref ar3), .val (.ref b5), .val (.long ((zn - (0 : Int32)).toInt64)), .second, .val .null, .val (.int (own_after vs3 (.int (0 : Int32)) zn (0 : Int32))), .val (.long ((zn - (own_after vs3 (.int (0 : Int32)) zn (0 : Int32))).toInt64)), .second, .val .null, .val (.int (own_after vs3 (.int (0 : Int32)) zn (own_after vs3 (.int (0 : Int32)) zn (0 : Int32)))), .val (.long ((zn - (own_after vs3 (.int (0 : Int32)) zn (own_after vs3 (.int (0 : Int32)) zn (0 : Int32)))).toInt64)), .second, .val .null, .unset, .unset, .unset] [(.int (1 : Int32))])) _
      refine XS.goto X26.here hx rfl (pc0 := 181) (pc' := 185) rfl (hb hby at_181) (by decide) (by decide) ?_
      show Steps p.tables e below (T26.setTop (mkF m 185 #[.val (.int p0), .val (.int p1), .val (.int p2), .val (.int zn), .val (.ref ar3), .val (.ref b5), .val (.long ((zn - (0 : Int32)).toInt64)), .second, .val .null, .val (.int (own_after vs3 (.int (0 : Int32)) zn (0 : Int32))), .val (.long ((zn - (own_after vs3 (.int (0 : Int32)) zn (0 : Int32))).toInt64)), .second, .val .null, .val (.int (own_after vs3 (.int (0 : Int32)) zn (own_after vs3 (.int (0 : Int32)) zn (0 : Int32)))), .val (.long ((zn - (own_after vs3 (.int (0 : Int32)) zn (own_after vs3 (.int (0 : Int32)) zn (0 : Int32)))).toInt64)), .second, .val .null, .unset, .unset, .unset] [(.int (1 : Int32))])) _
      refine XS.lload X26.here hx rfl (hb hby at_185) rfl ?_
      show Steps p.tables e below (T26.setTop (mkF m 187 #[.val (.int p0), .val (.int p1), .val (.int p2), .val (.int zn), .val (.ref ar3), .val (.ref b5), .val (.long ((zn - (0 : Int32)).toInt64)), .second, .val .null, .val (.int (own_after vs3 (.int (0 : Int32)) zn (0 : Int32))), .val (.long ((zn - (own_after vs3 (.int (0 : Int32)) zn (0 : Int32))).toInt64)), .second, .val .null, .val (.int (own_after vs3 (.int (0 : Int32)) zn (own_after vs3 (.int (0 : Int32)) zn (0 : Int32)))), .val (.long ((zn - (own_after vs3 (.int (0 : Int32)) zn (own_after vs3 (.int (0 : Int32)) zn (0 : Int32)))).toInt64)), .second, .val .null, .unset, .unset, .unset] [(.long ((zn - (own_after vs3 (.int (0 : Int32)) zn (own_after vs3 (.int (0 : Int32)) zn (0 : Int32)))).toInt64)), (.int (1 : Int32))])) _
      refine XS.lconst X26.here hx rfl (hb hby at_187) ?_
      show Steps p.tables e below (T26.setTop (mkF m 188 #[.val (.int p0), .val (.int p1), .val (.int p2), .val (.int zn), .val (.ref ar3), .val (.ref b5), .val (.long ((zn - (0 : Int32)).toInt64)), .second, .val .null, .val (.int (own_after vs3 (.int (0 : Int32)) zn (0 : Int32))), .val (.long ((zn - (own_after vs3 (.int (0 : Int32)) zn (0 : Int32))).toInt64)), .second, .val .null, .val (.int (own_after vs3 (.int (0 : Int32)) zn (own_after vs3 (.int (0 : Int32)) zn (0 : Int32)))), .val (.long ((zn - (own_after vs3 (.int (0 : Int32)) zn (own_after vs3 (.int (0 : Int32)) zn (0 : Int32)))).toInt64)), .second, .val .null, .unset, .unset, .unset] [(.long (0 : Int64)), (.long ((zn - (own_after vs3 (.int (0 : Int32)) zn (own_after vs3 (.int (0 : Int32)) zn (0 : Int32)))).toInt64)), (.int (1 : Int32))])) _
      refine XS.lcmp X26.here hx rfl (hb hby at_188) rfl ?_
      show Steps p.tables e below (T26.setTop (mkF m 189 #[.val (.int p0), .val (.int p1), .val (.int p2), .val (.int zn), .val (.ref ar3), .val (.ref b5), .val (.long ((zn - (0 : Int32)).toInt64)), .second, .val .null, .val (.int (own_after vs3 (.int (0 : Int32)) zn (0 : Int32))), .val (.long ((zn - (own_after vs3 (.int (0 : Int32)) zn (0 : Int32))).toInt64)), .second, .val .null, .val (.int (own_after vs3 (.int (0 : Int32)) zn (own_after vs3 (.int (0 : Int32)) zn (0 : Int32)))), .val (.long ((zn - (own_after vs3 (.int (0 : Int32)) zn (own_after vs3 (.int (0 : Int32)) zn (0 : Int32)))).toInt64)), .second, .val .null, .unset, .unset, .unset] [(.int (lcmpW ((zn - (own_after vs3 (.int (0 : Int32)) zn (own_after vs3 (.int (0 : Int32)) zn (0 : Int32)))).toInt64) (0 : Int64))), (.int (1 : Int32))])) _
      refine XS.ifNo X26.here hx rfl (hb hby at_189) rfl ((if0 _ _).trans (teq (own_lz hs21 : (lcmpW ((zn - (own_after vs3 (.int (0 : Int32)) zn (own_after vs3 (.int (0 : Int32)) zn (0 : Int32)))).toInt64) (0 : Int64)) = (0 : Int32))).2) ?_
      show Steps p.tables e below (T26.setTop (mkF m 192 #[.val (.int p0), .val (.int p1), .val (.int p2), .val (.int zn), .val (.ref ar3), .val (.ref b5), .val (.long ((zn - (0 : Int32)).toInt64)), .second, .val .null, .val (.int (own_after vs3 (.int (0 : Int32)) zn (0 : Int32))), .val (.long ((zn - (own_after vs3 (.int (0 : Int32)) zn (0 : Int32))).toInt64)), .second, .val .null, .val (.int (own_after vs3 (.int (0 : Int32)) zn (own_after vs3 (.int (0 : Int32)) zn (0 : Int32)))), .val (.long ((zn - (own_after vs3 (.int (0 : Int32)) zn (own_after vs3 (.int (0 : Int32)) zn (0 : Int32)))).toInt64)), .second, .val .null, .unset, .unset, .unset] [(.int (1 : Int32))])) _
      refine XS.iconst X26.here hx rfl (hb hby at_192) ?_
      show Steps p.tables e below (T26.setTop (mkF m 193 #[.val (.int p0), .val (.int p1), .val (.int p2), .val (.int zn), .val (.ref ar3), .val (.ref b5), .val (.long ((zn - (0 : Int32)).toInt64)), .second, .val .null, .val (.int (own_after vs3 (.int (0 : Int32)) zn (0 : Int32))), .val (.long ((zn - (own_after vs3 (.int (0 : Int32)) zn (0 : Int32))).toInt64)), .second, .val .null, .val (.int (own_after vs3 (.int (0 : Int32)) zn (own_after vs3 (.int (0 : Int32)) zn (0 : Int32)))), .val (.long ((zn - (own_after vs3 (.int (0 : Int32)) zn (own_after vs3 (.int (0 : Int32)) zn (0 : Int32)))).toInt64)), .second, .val .null, .unset, .unset, .unset] [(.int (1 : Int32)), (.int (1 : Int32))])) _
      refine XS.goto X26.here hx rfl (pc0 := 193) (pc' := 197) rfl (hb hby at_193) (by decide) (by decide) ?_
      show Steps p.tables e below (T26.setTop (mkF m 197 #[.val (.int p0), .val (.int p1), .val (.int p2), .val (.int zn), .val (.ref ar3), .val (.ref b5), .val (.long ((zn - (0 : Int32)).toInt64)), .second, .val .null, .val (.int (own_after vs3 (.int (0 : Int32)) zn (0 : Int32))), .val (.long ((zn - (own_after vs3 (.int (0 : Int32)) zn (0 : Int32))).toInt64)), .second, .val .null, .val (.int (own_after vs3 (.int (0 : Int32)) zn (own_after vs3 (.int (0 : Int32)) zn (0 : Int32)))), .val (.long ((zn - (own_after vs3 (.int (0 : Int32)) zn (own_after vs3 (.int (0 : Int32)) zn (0 : Int32)))).toInt64)), .second, .val .null, .unset, .unset, .unset] [(.int (1 : Int32)), (.int (1 : Int32))])) _
      refine XS.icmpYes X26.here hx rfl (pc0 := 197) (pc' := 202) rfl (hb hby at_197) rfl (teq (by decide : (1 : Int32) = (1 : Int32))).1 (by decide) (by decide) ?_
      show Steps p.tables e below (T26.setTop (mkF m 202 #[.val (.int p0), .val (.int p1), .val (.int p2), .val (.int zn), .val (.ref ar3), .val (.ref b5), .val (.long ((zn - (0 : Int32)).toInt64)), .second, .val .null, .val (.int (own_after vs3 (.int (0 : Int32)) zn (0 : Int32))), .val (.long ((zn - (own_after vs3 (.int (0 : Int32)) zn (0 : Int32))).toInt64)), .second, .val .null, .val (.int (own_after vs3 (.int (0 : Int32)) zn (own_after vs3 (.int (0 : Int32)) zn (0 : Int32)))), .val (.long ((zn - (own_after vs3 (.int (0 : Int32)) zn (own_after vs3 (.int (0 : Int32)) zn (0 : Int32)))).toInt64)), .second, .val .null, .unset, .unset, .unset] [])) _
      refine XS.aload X26.here hx rfl (hb hby at_202) rfl rfl ?_
      show Steps p.tables e below (T26.setTop (mkF m 204 #[.val (.int p0), .val (.int p1), .val (.int p2), .val (.int zn), .val (.ref ar3), .val (.ref b5), .val (.long ((zn - (0 : Int32)).toInt64)), .second, .val .null, .val (.int (own_after vs3 (.int (0 : Int32)) zn (0 : Int32))), .val (.long ((zn - (own_after vs3 (.int (0 : Int32)) zn (0 : Int32))).toInt64)), .second, .val .null, .val (.int (own_after vs3 (.int (0 : Int32)) zn (own_after vs3 (.int (0 : Int32)) zn (0 : Int32)))), .val (.long ((zn - (own_after vs3 (.int (0 : Int32)) zn (own_after vs3 (.int (0 : Int32)) zn (0 : Int32)))).toInt64)), .second, .val .null, .unset, .unset, .unset] [(.ref ar3)])) _
      refine XS.iload X26.here hx rfl (hb hby at_204) rfl ?_
      show Steps p.tables e below (T26.setTop (mkF m 206 #[.val (.int p0), .val (.int p1), .val (.int p2), .val (.int zn), .val (.ref ar3), .val (.ref b5), .val (.long ((zn - (0 : Int32)).toInt64)), .second, .val .null, .val (.int (own_after vs3 (.int (0 : Int32)) zn (0 : Int32))), .val (.long ((zn - (own_after vs3 (.int (0 : Int32)) zn (0 : Int32))).toInt64)), .second, .val .null, .val (.int (own_after vs3 (.int (0 : Int32)) zn (own_after vs3 (.int (0 : Int32)) zn (0 : Int32)))), .val (.long ((zn - (own_after vs3 (.int (0 : Int32)) zn (own_after vs3 (.int (0 : Int32)) zn (0 : Int32)))).toInt64)), .second, .val .null, .unset, .unset, .unset] [(.int (own_after vs3 (.int (0 : Int32)) zn (own_after vs3 (.int (0 : Int32)) zn (0 : Int32)))), (.ref ar3)])) _
      refine st29 _ ?_
      show Steps p.tables e below (T29.setTop (mkF m 209 #[.val (.int p0), .val (.int p1), .val (.int p2), .val (.int zn), .val (.ref ar3), .val (.ref b5), .val (.long ((zn - (0 : Int32)).toInt64)), .second, .val .null, .val (.int (own_after vs3 (.int (0 : Int32)) zn (0 : Int32))), .val (.long ((zn - (own_after vs3 (.int (0 : Int32)) zn (0 : Int32))).toInt64)), .second, .val .null, .val (.int (own_after vs3 (.int (0 : Int32)) zn (own_after vs3 (.int (0 : Int32)) zn (0 : Int32)))), .val (.long ((zn - (own_after vs3 (.int (0 : Int32)) zn (own_after vs3 (.int (0 : Int32)) zn (0 : Int32)))).toInt64)), .second, .val .null, .unset, .unset, .unset] [(.int (own_after vs3 (.int (0 : Int32)) zn (own_after vs3 (.int (0 : Int32)) zn (own_after vs3 (.int (0 : Int32)) zn (0 : Int32)))))])) _
      refine XS.istore X29.here hx rfl (hb hby at_209) rfl (l' := #[.val (.int p0), .val (.int p1), .val (.int p2), .val (.int zn), .val (.ref ar3), .val (.ref b5), .val (.long ((zn - (0 : Int32)).toInt64)), .second, .val .null, .val (.int (own_after vs3 (.int (0 : Int32)) zn (0 : Int32))), .val (.long ((zn - (own_after vs3 (.int (0 : Int32)) zn (0 : Int32))).toInt64)), .second, .val .null, .val (.int (own_after vs3 (.int (0 : Int32)) zn (own_after vs3 (.int (0 : Int32)) zn (0 : Int32)))), .val (.long ((zn - (own_after vs3 (.int (0 : Int32)) zn (own_after vs3 (.int (0 : Int32)) zn (0 : Int32)))).toInt64)), .second, .val .null, .val (.int (own_after vs3 (.int (0 : Int32)) zn (own_after vs3 (.int (0 : Int32)) zn (own_after vs3 (.int (0 : Int32)) zn (0 : Int32))))), .unset, .unset]) rfl ?_
      show Steps p.tables e below (T29.setTop (mkF m 211 #[.val (.int p0), .val (.int p1), .val (.int p2), .val (.int zn), .val (.ref ar3), .val (.ref b5), .val (.long ((zn - (0 : Int32)).toInt64)), .second, .val .null, .val (.int (own_after vs3 (.int (0 : Int32)) zn (0 : Int32))), .val (.long ((zn - (own_after vs3 (.int (0 : Int32)) zn (0 : Int32))).toInt64)), .second, .val .null, .val (.int (own_after vs3 (.int (0 : Int32)) zn (own_after vs3 (.int (0 : Int32)) zn (0 : Int32)))), .val (.long ((zn - (own_after vs3 (.int (0 : Int32)) zn (own_after vs3 (.int (0 : Int32)) zn (0 : Int32)))).toInt64)), .second, .val .null, .val (.int (own_after vs3 (.int (0 : Int32)) zn (own_after vs3 (.int (0 : Int32)) zn (own_after vs3 (.int (0 : Int32)) zn (0 : Int32))))), .unset, .unset] [])) _
      refine XS.aload X29.here hx rfl (hb hby at_211) rfl rfl ?_
      show Steps p.tables e below (T29.setTop (mkF m 213 #[.val (.int p0), .val (.int p1), .val (.int p2), .val (.int zn), .val (.ref ar3), .val (.ref b5), .val (.long ((zn - (0 : Int32)).toInt64)), .second, .val .null, .val (.int (own_after vs3 (.int (0 : Int32)) zn (0 : Int32))), .val (.long ((zn - (own_after vs3 (.int (0 : Int32)) zn (0 : Int32))).toInt64)), .second, .val .null, .val (.int (own_after vs3 (.int (0 : Int32)) zn (own_after vs3 (.int (0 : Int32)) zn (0 : Int32)))), .val (.long ((zn - (own_after vs3 (.int (0 : Int32)) zn (own_after vs3 (.int (0 : Int32)) zn (0 : Int32)))).toInt64)), .second, .val .null, .val (.int (own_after vs3 (.int (0 : Int32)) zn (own_after vs3 (.int (0 : Int32)) zn (own_after vs3 (.int (0 : Int32)) zn (0 : Int32))))), .unset, .unset] [(.ref b5)])) _
      refine st30.trans ?_
      show Steps p.tables e below (T30.setTop (mkF m 216 #[.val (.int p0), .val (.int p1), .val (.int p2), .val (.int zn), .val (.ref ar3), .val (.ref b5), .val (.long ((zn - (0 : Int32)).toInt64)), .second, .val .null, .val (.int (own_after vs3 (.int (0 : Int32)) zn (0 : Int32))), .val (.long ((zn - (own_after vs3 (.int (0 : Int32)) zn (0 : Int32))).toInt64)), .second, .val .null, .val (.int (own_after vs3 (.int (0 : Int32)) zn (own_after vs3 (.int (0 : Int32)) zn (0 : Int32)))), .val (.long ((zn - (own_after vs3 (.int (0 : Int32)) zn (own_after vs3 (.int (0 : Int32)) zn (0 : Int32)))).toInt64)), .second, .val .null, .val (.int (own_after vs3 (.int (0 : Int32)) zn (own_after vs3 (.int (0 : Int32)) zn (own_after vs3 (.int (0 : Int32)) zn (0 : Int32))))), .unset, .unset] [(.long ((zn - (own_after vs3 (.int (0 : Int32)) zn (own_after vs3 (.int (0 : Int32)) zn (own_after vs3 (.int (0 : Int32)) zn (0 : Int32))))).toInt64))])) _
      refine XS.lstore X30.here hx rfl (hb hby at_216) rfl (l' := #[.val (.int p0), .val (.int p1), .val (.int p2), .val (.int zn), .val (.ref ar3), .val (.ref b5), .val (.long ((zn - (0 : Int32)).toInt64)), .second, .val .null, .val (.int (own_after vs3 (.int (0 : Int32)) zn (0 : Int32))), .val (.long ((zn - (own_after vs3 (.int (0 : Int32)) zn (0 : Int32))).toInt64)), .second, .val .null, .val (.int (own_after vs3 (.int (0 : Int32)) zn (own_after vs3 (.int (0 : Int32)) zn (0 : Int32)))), .val (.long ((zn - (own_after vs3 (.int (0 : Int32)) zn (own_after vs3 (.int (0 : Int32)) zn (0 : Int32)))).toInt64)), .second, .val .null, .val (.int (own_after vs3 (.int (0 : Int32)) zn (own_after vs3 (.int (0 : Int32)) zn (own_after vs3 (.int (0 : Int32)) zn (0 : Int32))))), .val (.long ((zn - (own_after vs3 (.int (0 : Int32)) zn (own_after vs3 (.int (0 : Int32)) zn (own_after vs3 (.int (0 : Int32)) zn (0 : Int32))))).toInt64)), .second]) rfl ?_
      show Steps p.tables e below (T30.setTop (mkF m 218 #[.val (.int p0), .val (.int p1), .val (.int p2), .val (.int zn), .val (.ref ar3), .val (.ref b5), .val (.long ((zn - (0 : Int32)).toInt64)), .second, .val .null, .val (.int (own_after vs3 (.int (0 : Int32)) zn (0 : Int32))), .val (.long ((zn - (own_after vs3 (.int (0 : Int32)) zn (0 : Int32))).toInt64)), .second, .val .null, .val (.int (own_after vs3 (.int (0 : Int32)) zn (own_after vs3 (.int (0 : Int32)) zn (0 : Int32)))), .val (.long ((zn - (own_after vs3 (.int (0 : Int32)) zn (own_after vs3 (.int (0 : Int32)) zn (0 : Int32)))).toInt64)), .second, .val .null, .val (.int (own_after vs3 (.int (0 : Int32)) zn (own_after vs3 (.int (0 : Int32)) zn (own_after vs3 (.int (0 : Int32)) zn (0 : Int32))))), .val (.long ((zn - (own_after vs3 (.int (0 : Int32)) zn (own_after vs3 (.int (0 : Int32)) zn (own_after vs3 (.int (0 : Int32)) zn (0 : Int32))))).toInt64)), .second] [])) _
      refine XS.lload X30.here hx rfl (hb hby at_218) rfl ?_
      show Steps p.tables e below (T30.setTop (mkF m 220 #[.val (.int p0), .val (.int p1), .val (.int p2), .val (.int zn), .val (.ref ar3), .val (.ref b5), .val (.long ((zn - (0 : Int32)).toInt64)), .second, .val .null, .val (.int (own_after vs3 (.int (0 : Int32)) zn (0 : Int32))), .val (.long ((zn - (own_after vs3 (.int (0 : Int32)) zn (0 : Int32))).toInt64)), .second, .val .null, .val (.int (own_after vs3 (.int (0 : Int32)) zn (own_after vs3 (.int (0 : Int32)) zn (0 : Int32)))), .val (.long ((zn - (own_after vs3 (.int (0 : Int32)) zn (own_after vs3 (.int (0 : Int32)) zn (0 : Int32)))).toInt64)), .second, .val .null, .val (.int (own_after vs3 (.int (0 : Int32)) zn (own_after vs3 (.int (0 : Int32)) zn (own_after vs3 (.int (0 : Int32)) zn (0 : Int32))))), .val (.long ((zn - (own_after vs3 (.int (0 : Int32)) zn (own_after vs3 (.int (0 : Int32)) zn (own_after vs3 (.int (0 : Int32)) zn (0 : Int32))))).toInt64)), .second] [(.long ((zn - (own_after vs3 (.int (0 : Int32)) zn (own_after vs3 (.int (0 : Int32)) zn (own_after vs3 (.int (0 : Int32)) zn (0 : Int32))))).toInt64))])) _
      refine XS.iloadN X30.here hx rfl (hb hby at_220) rfl ?_
      show Steps p.tables e below (T30.setTop (mkF m 221 #[.val (.int p0), .val (.int p1), .val (.int p2), .val (.int zn), .val (.ref ar3), .val (.ref b5), .val (.long ((zn - (0 : Int32)).toInt64)), .second, .val .null, .val (.int (own_after vs3 (.int (0 : Int32)) zn (0 : Int32))), .val (.long ((zn - (own_after vs3 (.int (0 : Int32)) zn (0 : Int32))).toInt64)), .second, .val .null, .val (.int (own_after vs3 (.int (0 : Int32)) zn (own_after vs3 (.int (0 : Int32)) zn (0 : Int32)))), .val (.long ((zn - (own_after vs3 (.int (0 : Int32)) zn (own_after vs3 (.int (0 : Int32)) zn (0 : Int32)))).toInt64)), .second, .val .null, .val (.int (own_after vs3 (.int (0 : Int32)) zn (own_after vs3 (.int (0 : Int32)) zn (own_after vs3 (.int (0 : Int32)) zn (0 : Int32))))), .val (.long ((zn - (own_after vs3 (.int (0 : Int32)) zn (own_after vs3 (.int (0 : Int32)) zn (own_after vs3 (.int (0 : Int32)) zn (0 : Int32))))).toInt64)), .second] [(.int zn), (.long ((zn - (own_after vs3 (.int (0 : Int32)) zn (own_after vs3 (.int (0 : Int32)) zn (own_after vs3 (.int (0 : Int32)) zn (0 : Int32))))).toInt64))])) _
      refine XS.iload X30.here hx rfl (hb hby at_221) rfl ?_
      show Steps p.tables e below (T30.setTop (mkF m 223 #[.val (.int p0), .val (.int p1), .val (.int p2), .val (.int zn), .val (.ref ar3), .val (.ref b5), .val (.long ((zn - (0 : Int32)).toInt64)), .second, .val .null, .val (.int (own_after vs3 (.int (0 : Int32)) zn (0 : Int32))), .val (.long ((zn - (own_after vs3 (.int (0 : Int32)) zn (0 : Int32))).toInt64)), .second, .val .null, .val (.int (own_after vs3 (.int (0 : Int32)) zn (own_after vs3 (.int (0 : Int32)) zn (0 : Int32)))), .val (.long ((zn - (own_after vs3 (.int (0 : Int32)) zn (own_after vs3 (.int (0 : Int32)) zn (0 : Int32)))).toInt64)), .second, .val .null, .val (.int (own_after vs3 (.int (0 : Int32)) zn (own_after vs3 (.int (0 : Int32)) zn (own_after vs3 (.int (0 : Int32)) zn (0 : Int32))))), .val (.long ((zn - (own_after vs3 (.int (0 : Int32)) zn (own_after vs3 (.int (0 : Int32)) zn (own_after vs3 (.int (0 : Int32)) zn (0 : Int32))))).toInt64)), .second] [(.int (own_after vs3 (.int (0 : Int32)) zn (own_after vs3 (.int (0 : Int32)) zn (own_after vs3 (.int (0 : Int32)) zn (0 : Int32))))), (.int zn), (.long ((zn - (own_after vs3 (.int (0 : Int32)) zn (own_after vs3 (.int (0 : Int32)) zn (own_after vs3 (.int (0 : Int32)) zn (0 : Int32))))).toInt64))])) _
      refine XS.isub X30.here hx rfl (hb hby at_223) rfl ?_
      show Steps p.tables e below (T30.setTop (mkF m 224 #[.val (.int p0), .val (.int p1), .val (.int p2), .val (.int zn), .val (.ref ar3), .val (.ref b5), .val (.long ((zn - (0 : Int32)).toInt64)), .second, .val .null, .val (.int (own_after vs3 (.int (0 : Int32)) zn (0 : Int32))), .val (.long ((zn - (own_after vs3 (.int (0 : Int32)) zn (0 : Int32))).toInt64)), .second, .val .null, .val (.int (own_after vs3 (.int (0 : Int32)) zn (own_after vs3 (.int (0 : Int32)) zn (0 : Int32)))), .val (.long ((zn - (own_after vs3 (.int (0 : Int32)) zn (own_after vs3 (.int (0 : Int32)) zn (0 : Int32)))).toInt64)), .second, .val .null, .val (.int (own_after vs3 (.int (0 : Int32)) zn (own_after vs3 (.int (0 : Int32)) zn (own_after vs3 (.int (0 : Int32)) zn (0 : Int32))))), .val (.long ((zn - (own_after vs3 (.int (0 : Int32)) zn (own_after vs3 (.int (0 : Int32)) zn (own_after vs3 (.int (0 : Int32)) zn (0 : Int32))))).toInt64)), .second] [(.int (zn - (own_after vs3 (.int (0 : Int32)) zn (own_after vs3 (.int (0 : Int32)) zn (own_after vs3 (.int (0 : Int32)) zn (0 : Int32)))))), (.long ((zn - (own_after vs3 (.int (0 : Int32)) zn (own_after vs3 (.int (0 : Int32)) zn (own_after vs3 (.int (0 : Int32)) zn (0 : Int32))))).toInt64))])) _
      refine XS.i2l X30.here hx rfl (hb hby at_224) rfl ?_
      show Steps p.tables e below (T30.setTop (mkF m 225 #[.val (.int p0), .val (.int p1), .val (.int p2), .val (.int zn), .val (.ref ar3), .val (.ref b5), .val (.long ((zn - (0 : Int32)).toInt64)), .second, .val .null, .val (.int (own_after vs3 (.int (0 : Int32)) zn (0 : Int32))), .val (.long ((zn - (own_after vs3 (.int (0 : Int32)) zn (0 : Int32))).toInt64)), .second, .val .null, .val (.int (own_after vs3 (.int (0 : Int32)) zn (own_after vs3 (.int (0 : Int32)) zn (0 : Int32)))), .val (.long ((zn - (own_after vs3 (.int (0 : Int32)) zn (own_after vs3 (.int (0 : Int32)) zn (0 : Int32)))).toInt64)), .second, .val .null, .val (.int (own_after vs3 (.int (0 : Int32)) zn (own_after vs3 (.int (0 : Int32)) zn (own_after vs3 (.int (0 : Int32)) zn (0 : Int32))))), .val (.long ((zn - (own_after vs3 (.int (0 : Int32)) zn (own_after vs3 (.int (0 : Int32)) zn (own_after vs3 (.int (0 : Int32)) zn (0 : Int32))))).toInt64)), .second] [(.long ((zn - (own_after vs3 (.int (0 : Int32)) zn (own_after vs3 (.int (0 : Int32)) zn (own_after vs3 (.int (0 : Int32)) zn (0 : Int32))))).toInt64)), (.long ((zn - (own_after vs3 (.int (0 : Int32)) zn (own_after vs3 (.int (0 : Int32)) zn (own_after vs3 (.int (0 : Int32)) zn (0 : Int32))))).toInt64))])) _
      refine XS.lcmp X30.here hx rfl (hb hby at_225) rfl ?_
      show Steps p.tables e below (T30.setTop (mkF m 226 #[.val (.int p0), .val (.int p1), .val (.int p2), .val (.int zn), .val (.ref ar3), .val (.ref b5), .val (.long ((zn - (0 : Int32)).toInt64)), .second, .val .null, .val (.int (own_after vs3 (.int (0 : Int32)) zn (0 : Int32))), .val (.long ((zn - (own_after vs3 (.int (0 : Int32)) zn (0 : Int32))).toInt64)), .second, .val .null, .val (.int (own_after vs3 (.int (0 : Int32)) zn (own_after vs3 (.int (0 : Int32)) zn (0 : Int32)))), .val (.long ((zn - (own_after vs3 (.int (0 : Int32)) zn (own_after vs3 (.int (0 : Int32)) zn (0 : Int32)))).toInt64)), .second, .val .null, .val (.int (own_after vs3 (.int (0 : Int32)) zn (own_after vs3 (.int (0 : Int32)) zn (own_after vs3 (.int (0 : Int32)) zn (0 : Int32))))), .val (.long ((zn - (own_after vs3 (.int (0 : Int32)) zn (own_after vs3 (.int (0 : Int32)) zn (own_after vs3 (.int (0 : Int32)) zn (0 : Int32))))).toInt64)), .second] [(.int (lcmpW ((zn - (own_after vs3 (.int (0 : Int32)) zn (own_after vs3 (.int (0 : Int32)) zn (own_after vs3 (.int (0 : Int32)) zn (0 : Int32))))).toInt64) ((zn - (own_after vs3 (.int (0 : Int32)) zn (own_after vs3 (.int (0 : Int32)) zn (own_after vs3 (.int (0 : Int32)) zn (0 : Int32))))).toInt64)))])) _
      refine XS.ifNo X30.here hx rfl (hb hby at_226) rfl ((if0 _ _).trans (teq (own_lc _ : (lcmpW ((zn - (own_after vs3 (.int (0 : Int32)) zn (own_after vs3 (.int (0 : Int32)) zn (own_after vs3 (.int (0 : Int32)) zn (0 : Int32))))).toInt64) ((zn - (own_after vs3 (.int (0 : Int32)) zn (own_after vs3 (.int (0 : Int32)) zn (own_after vs3 (.int (0 : Int32)) zn (0 : Int32))))).toInt64)) = (0 : Int32))).2) ?_
      show Steps p.tables e below (T30.setTop (mkF m 229 #[.val (.int p0), .val (.int p1), .val (.int p2), .val (.int zn), .val (.ref ar3), .val (.ref b5), .val (.long ((zn - (0 : Int32)).toInt64)), .second, .val .null, .val (.int (own_after vs3 (.int (0 : Int32)) zn (0 : Int32))), .val (.long ((zn - (own_after vs3 (.int (0 : Int32)) zn (0 : Int32))).toInt64)), .second, .val .null, .val (.int (own_after vs3 (.int (0 : Int32)) zn (own_after vs3 (.int (0 : Int32)) zn (0 : Int32)))), .val (.long ((zn - (own_after vs3 (.int (0 : Int32)) zn (own_after vs3 (.int (0 : Int32)) zn (0 : Int32)))).toInt64)), .second, .val .null, .val (.int (own_after vs3 (.int (0 : Int32)) zn (own_after vs3 (.int (0 : Int32)) zn (own_after vs3 (.int (0 : Int32)) zn (0 : Int32))))), .val (.long ((zn - (own_after vs3 (.int (0 : Int32)) zn (own_after vs3 (.int (0 : Int32)) zn (own_after vs3 (.int (0 : Int32)) zn (0 : Int32))))).toInt64)), .second] [])) _
      refine XS.iconst X30.here hx rfl (hb hby at_229) ?_
      show Steps p.tables e below (T30.setTop (mkF m 230 #[.val (.int p0), .val (.int p1), .val (.int p2), .val (.int zn), .val (.ref ar3), .val (.ref b5), .val (.long ((zn - (0 : Int32)).toInt64)), .second, .val .null, .val (.int (own_after vs3 (.int (0 : Int32)) zn (0 : Int32))), .val (.long ((zn - (own_after vs3 (.int (0 : Int32)) zn (0 : Int32))).toInt64)), .second, .val .null, .val (.int (own_after vs3 (.int (0 : Int32)) zn (own_after vs3 (.int (0 : Int32)) zn (0 : Int32)))), .val (.long ((zn - (own_after vs3 (.int (0 : Int32)) zn (own_after vs3 (.int (0 : Int32)) zn (0 : Int32)))).toInt64)), .second, .val .null, .val (.int (own_after vs3 (.int (0 : Int32)) zn (own_after vs3 (.int (0 : Int32)) zn (own_after vs3 (.int (0 : Int32)) zn (0 : Int32))))), .val (.long ((zn - (own_after vs3 (.int (0 : Int32)) zn (own_after vs3 (.int (0 : Int32)) zn (own_after vs3 (.int (0 : Int32)) zn (0 : Int32))))).toInt64)), .second] [(.int (1 : Int32))])) _
      refine XS.goto X30.here hx rfl (pc0 := 230) (pc' := 234) rfl (hb hby at_230) (by decide) (by decide) ?_
      exact k
    obtain ⟨fs, hrq, hrun, hended, hW, hsame⟩ := X30.leave (v := some (.int (1 : Int32))) (fun h => by rw [Bd.returns] at h; cases h)
    refine ⟨_, _, pre31 _ ?_, hrun, hended, _, _, rfl, ?_, ⟨_, rfl⟩, hW, hsame.mono (by decide) (by decide)⟩
    · show Steps p.tables e below (T30.setTop (mkF m 234 #[.val (.int p0), .val (.int p1), .val (.int p2), .val (.int zn), .val (.ref ar3), .val (.ref b5), .val (.long ((zn - (0 : Int32)).toInt64)), .second, .val .null, .val (.int (own_after vs3 (.int (0 : Int32)) zn (0 : Int32))), .val (.long ((zn - (own_after vs3 (.int (0 : Int32)) zn (0 : Int32))).toInt64)), .second, .val .null, .val (.int (own_after vs3 (.int (0 : Int32)) zn (own_after vs3 (.int (0 : Int32)) zn (0 : Int32)))), .val (.long ((zn - (own_after vs3 (.int (0 : Int32)) zn (own_after vs3 (.int (0 : Int32)) zn (0 : Int32)))).toInt64)), .second, .val .null, .val (.int (own_after vs3 (.int (0 : Int32)) zn (own_after vs3 (.int (0 : Int32)) zn (own_after vs3 (.int (0 : Int32)) zn (0 : Int32))))), .val (.long ((zn - (own_after vs3 (.int (0 : Int32)) zn (own_after vs3 (.int (0 : Int32)) zn (own_after vs3 (.int (0 : Int32)) zn (0 : Int32))))).toInt64)), .second] [(.int (1 : Int32))])) _
      exact retN X30 hx (t := .boolean) Bd.returns (by simp) (hb hby at_234) hrq
    · show Q0 Z p0 p1 p2 ln kl h0 n0 _ T30.heap _
      rw [e30]
      exact ⟨rfl, N30⟩
  · have hbb32 := own_lt3 hzb (own_r0 hzb) hs_15
    obtain ⟨cq33, kq33, q33a, q33b, q33c⟩ := isOf hZ e13 E_b5_i
    obtain ⟨_, _, ⟨T33, L33, k33, n33⟩, -, X33, ⟨Lc33, hQ33, l33, y33, z33⟩, st33⟩ := X13.virtualBack hx (y := (⟨"quorumkeep/store/Messages$Reader", "next", "()[B"⟩ : MethodName)) (z := (⟨"quorumkeep/store/Messages$Reader", "next", "()[B"⟩ : MethodName)) hown (mvT hZ (hw _ (List.mem_of_getElem? (i := 38) rfl))) (mvT hZ (hw _ (List.mem_of_getElem? (i := 39) rfl))) (notFace_of_selects (args := #[]) (mvT hZ (hw _ (List.mem_of_getElem? (i := 41) rfl)))) (mvT hZ (hw _ (List.mem_of_getElem? (i := 41) rfl))) (mvT hZ (hw _ (List.mem_of_getElem? (i := 40) rfl))) (by decide) (backOf (W := 0) (rmnextY l Z a0 hw [] b5 ar3 kk3 zn vs3 (.int (0 : Int32)) ln kl (0 : Int32) T9.heap n0 Z10 rd9 c12 c11 hbb32 g_b5) hZ (hw _ (List.mem_of_getElem? (i := 42) rfl)) (hw _ (List.mem_of_getElem? (i := 8) rfl)) (by decide) (by decide)) q33a q33c (g := (mkF m 45 #[.val (.int p0), .val (.int p1), .val (.int p2), .val (.int zn), .val (.ref ar3), .val (.ref b5), .val (.long ((zn - (0 : Int32)).toInt64)), .second, .unset, .unset, .unset, .unset, .unset, .unset, .unset, .unset, .unset, .unset, .unset, .unset] [(.ref b5)])) rfl (by rw [hml]; rfl) (Steps.refl _) (argsL := []) (rest := []) (lenOf pd_12 rfl) rfl (by show 2 * 0 + _ ≤ _; exact Nat.le_of_eq rfl) (hb hby at_45) (fun _ _ => ⟨rfl, e13, (by decide : 2 + 2 ≤ _), (by decide : 16 + 8 ≤ _)⟩)
    dsimp only [Pt.U, Pt.locs, Pt.cells, Pt.slots] at X33 l33 y33 z33 st33 hQ33
    subst l33 y33 z33
    obtain ⟨x33, rfl, Nq33, Kq33, l233, rd33, hl33⟩ := hQ33
    have N33 := Fr.app N13 Nq33
    have Z34 : n0 ≤ T33.heap.size := Nat.le_trans Z10 Kq33.1
    have hB33 := own_ab hzb (own_r0 hzb) vs3 (.int (0 : Int32))
    have rdc_33 := rd33
    obtain ⟨E_b5_33, F_line_33, F_length_33, F_budget_33, F_buffer_33, F_end_33, F_read_33, F_start_33, F_held_33, F_atEnd_33, ⟨u_size_33, F_size_33⟩, ⟨u_keep_33, F_keepable_33⟩⟩ := rdc_33
    have c35 : Arv Z T33.heap ar3 kk3 .byte zn vs3 (.int (0 : Int32)) := (c11.keep Kq33 (ninS (Ne.symm ne_ra) nin0))
    obtain ⟨_, _, ⟨T36, L36, k36, n36⟩, -, X36, ⟨Lc36, hQ36, l36, y36, z36⟩, st36⟩ := Jvm.LawKit.callS X33 hx (y := (⟨"quorumkeep/store/ReaderMostMessagesLeftPinLaw", "after", "([BI)I"⟩ : MethodName)) hown (mvT hZ (hw _ (List.mem_of_getElem? (i := 69) rfl))) (mvT hZ (hw _ (List.mem_of_getElem? (i := 70) rfl))) (mvT hZ (hw _ (List.mem_of_getElem? (i := 3) rfl))) (mvT hZ (hw _ (List.mem_of_getElem? (i := 71) rfl))) (by decide) (backOf (W := 0) (rmafter l Z a0 hw [] ar3 (0 : Int32) kk3 zn vs3 (.int (0 : Int32)) T33.heap n0 Z34 c35) hZ (hw _ (List.mem_of_getElem? (i := 71) rfl)) (hw _ (List.mem_of_getElem? (i := 3) rfl)) (by decide) (by decide)) (g := (mkF m 80 #[.val (.int p0), .val (.int p1), .val (.int p2), .val (.int zn), .val (.ref ar3), .val (.ref b5), .val (.long ((zn - (0 : Int32)).toInt64)), .second, .val (.ref x33), .unset, .unset, .unset, .unset, .unset, .unset, .unset, .unset, .unset, .unset, .unset] [(.int (0 : Int32)), (.ref ar3)])) rfl (by rw [hml]; rfl) (argsL := [(.ref ar3), (.int (0 : Int32))]) (rest := []) (lenOf pd_13 rfl) rfl (by show 2 * 0 + _ ≤ _; exact Nat.le_of_eq rfl) (hb hby at_80) (fun _ _ => ⟨rfl, rfl, (by decide : 4 + 0 ≤ _), (by decide : 24 + 0 ≤ _)⟩)
    dsimp only [Pt.U, Pt.locs, Pt.cells, Pt.slots] at X36 l36 y36 z36 st36 hQ36
    subst l36 y36 z36
    obtain ⟨rfl, Nq36, hh36⟩ := hQ36
    have N36 := Fr.app N33 Nq36
    have e36 : T36.heap = T33.heap := hh36
    obtain ⟨cq37, kq37, q37a, q37b, q37c⟩ := isOf hZ e36 E_b5_33
    obtain ⟨_, _, ⟨T37, L37, k37, n37⟩, -, X37, ⟨Lc37, hQ37, l37, y37, z37⟩, st37⟩ := X36.virtualBack hx (y := (⟨"quorumkeep/store/Messages$Reader", "mostMessagesLeft", "()J"⟩ : MethodName)) (z := (⟨"quorumkeep/store/Messages$Reader", "mostMessagesLeft", "()J"⟩ : MethodName)) hown (mvT hZ (hw _ (List.mem_of_getElem? (i := 31) rfl))) (mvT hZ (hw _ (List.mem_of_getElem? (i := 32) rfl))) (notFace_of_selects (args := #[]) (mvT hZ (hw _ (List.mem_of_getElem? (i := 34) rfl)))) (mvT hZ (hw _ (List.mem_of_getElem? (i := 34) rfl))) (mvT hZ (hw _ (List.mem_of_getElem? (i := 33) rfl))) (by decide) (backOf (W := 0) (rmmm l Z a0 hw [] b5 zn (own_after vs3 (.int (0 : Int32)) zn (0 : Int32)) T33.heap n0 Z34 F_length_33 F_end_33 F_start_33 F_read_33 (own_z0 hz)) hZ (hw _ (List.mem_of_getElem? (i := 35) rfl)) (hw _ (List.mem_of_getElem? (i := 8) rfl)) (by decide) (by decide)) q37a q37c (g := (mkF m 87 #[.val (.int p0), .val (.int p1), .val (.int p2), .val (.int zn), .val (.ref ar3), .val (.ref b5), .val (.long ((zn - (0 : Int32)).toInt64)), .second, .val (.ref x33), .val (.int (own_after vs3 (.int (0 : Int32)) zn (0 : Int32))), .unset, .unset, .unset, .unset, .unset, .unset, .unset, .unset, .unset, .unset] [(.ref b5)])) rfl (by rw [hml]; rfl) (Steps.refl _) (argsL := []) (rest := []) (lenOf pd_11 rfl) rfl (by show 2 * 0 + _ ≤ _; exact Nat.le_of_eq rfl) (hb hby at_87) (fun _ _ => ⟨rfl, e36, (by decide : 4 + 0 ≤ _), (by decide : 24 + 0 ≤ _)⟩)
    dsimp only [Pt.U, Pt.locs, Pt.cells, Pt.slots] at X37 l37 y37 z37 st37 hQ37
    subst l37 y37 z37
    obtain ⟨rfl, Nq37, hh37⟩ := hQ37
    have N37 := Fr.app N36 Nq37
    have e37 : T37.heap = T33.heap := hh37
    have pre38 : ∀ t, Steps p.tables e below (T37.setTop (mkF m 105 #[.val (.int p0), .val (.int p1), .val (.int p2), .val (.int zn), .val (.ref ar3), .val (.ref b5), .val (.long ((zn - (0 : Int32)).toInt64)), .second, .val (.ref x33), .val (.int (own_after vs3 (.int (0 : Int32)) zn (0 : Int32))), .val (.long ((zn - (own_after vs3 (.int (0 : Int32)) zn (0 : Int32))).toInt64)), .second, .unset, .unset, .unset, .unset, .unset, .unset, .unset, .unset] [])) t → Steps p.tables e below (s₁.setTop (entryFrame m #[(.int p0), (.int p1), (.int p2)] maxLocals)) t := fun t k => by
      refine pre14 t ?_
      show Steps p.tables e below (T13.setTop (mkF m 43 #[.val (.int p0), .val (.int p1), .val (.int p2), .val (.int zn), .val (.ref ar3), .val (.ref b5), .val (.long ((zn - (0 : Int32)).toInt64)), .second, .unset, .unset, .unset, .unset, .unset, .unset, .unset, .unset, .unset, .unset, .unset, .unset] [])) _
      refine XS.aload X13.here hx rfl (hb hby at_43) rfl rfl ?_
      show Steps p.tables e below (T13.setTop (mkF m 45 #[.val (.int p0), .val (.int p1), .val (.int p2), .val (.int zn), .val (.ref ar3), .val (.ref b5), .val (.long ((zn - (0 : Int32)).toInt64)), .second, .unset, .unset, .unset, .unset, .unset, .unset, .unset, .unset, .unset, .unset, .unset, .unset] [(.ref b5)])) _
      refine st33.trans ?_
      show Steps p.tables e below (T33.setTop (mkF m 48 #[.val (.int p0), .val (.int p1), .val (.int p2), .val (.int zn), .val (.ref ar3), .val (.ref b5), .val (.long ((zn - (0 : Int32)).toInt64)), .second, .unset, .unset, .unset, .unset, .unset, .unset, .unset, .unset, .unset, .unset, .unset, .unset] [(.ref x33)])) _
      refine XS.astore X33.here hx rfl (hb hby at_48) rfl rfl (l' := #[.val (.int p0), .val (.int p1), .val (.int p2), .val (.int zn), .val (.ref ar3), .val (.ref b5), .val (.long ((zn - (0 : Int32)).toInt64)), .second, .val (.ref x33), .unset, .unset, .unset, .unset, .unset, .unset, .unset, .unset, .unset, .unset, .unset]) rfl ?_
      show Steps p.tables e below (T33.setTop (mkF m 50 #[.val (.int p0), .val (.int p1), .val (.int p2), .val (.int zn), .val (.ref ar3), .val (.ref b5), .val (.long ((zn - (0 : Int32)).toInt64)), .second, .val (.ref x33), .unset, .unset, .unset, .unset, .unset, .unset, .unset, .unset, .unset, .unset, .unset] [])) _
      refine XS.aload X33.here hx rfl (hb hby at_50) rfl rfl ?_
      show Steps p.tables e below (T33.setTop (mkF m 52 #[.val (.int p0), .val (.int p1), .val (.int p2), .val (.int zn), .val (.ref ar3), .val (.ref b5), .val (.long ((zn - (0 : Int32)).toInt64)), .second, .val (.ref x33), .unset, .unset, .unset, .unset, .unset, .unset, .unset, .unset, .unset, .unset, .unset] [(.ref x33)])) _
      refine XS.ifnonnullYes X33.here hx rfl (pc0 := 52) (pc' := 59) rfl (hb hby at_52) rfl (by decide) (by decide) ?_
      show Steps p.tables e below (T33.setTop (mkF m 59 #[.val (.int p0), .val (.int p1), .val (.int p2), .val (.int zn), .val (.ref ar3), .val (.ref b5), .val (.long ((zn - (0 : Int32)).toInt64)), .second, .val (.ref x33), .unset, .unset, .unset, .unset, .unset, .unset, .unset, .unset, .unset, .unset, .unset] [])) _
      refine XS.iconst X33.here hx rfl (hb hby at_59) ?_
      show Steps p.tables e below (T33.setTop (mkF m 60 #[.val (.int p0), .val (.int p1), .val (.int p2), .val (.int zn), .val (.ref ar3), .val (.ref b5), .val (.long ((zn - (0 : Int32)).toInt64)), .second, .val (.ref x33), .unset, .unset, .unset, .unset, .unset, .unset, .unset, .unset, .unset, .unset, .unset] [(.int (0 : Int32))])) _
      refine XS.lload X33.here hx rfl (hb hby at_60) rfl ?_
      show Steps p.tables e below (T33.setTop (mkF m 62 #[.val (.int p0), .val (.int p1), .val (.int p2), .val (.int zn), .val (.ref ar3), .val (.ref b5), .val (.long ((zn - (0 : Int32)).toInt64)), .second, .val (.ref x33), .unset, .unset, .unset, .unset, .unset, .unset, .unset, .unset, .unset, .unset, .unset] [(.long ((zn - (0 : Int32)).toInt64)), (.int (0 : Int32))])) _
      refine XS.lconst X33.here hx rfl (hb hby at_62) ?_
      show Steps p.tables e below (T33.setTop (mkF m 63 #[.val (.int p0), .val (.int p1), .val (.int p2), .val (.int zn), .val (.ref ar3), .val (.ref b5), .val (.long ((zn - (0 : Int32)).toInt64)), .second, .val (.ref x33), .unset, .unset, .unset, .unset, .unset, .unset, .unset, .unset, .unset, .unset, .unset] [(.long (0 : Int64)), (.long ((zn - (0 : Int32)).toInt64)), (.int (0 : Int32))])) _
      refine XS.lcmp X33.here hx rfl (hb hby at_63) rfl ?_
      show Steps p.tables e below (T33.setTop (mkF m 64 #[.val (.int p0), .val (.int p1), .val (.int p2), .val (.int zn), .val (.ref ar3), .val (.ref b5), .val (.long ((zn - (0 : Int32)).toInt64)), .second, .val (.ref x33), .unset, .unset, .unset, .unset, .unset, .unset, .unset, .unset, .unset, .unset, .unset] [(.int (lcmpW ((zn - (0 : Int32)).toInt64) (0 : Int64))), (.int (0 : Int32))])) _
      refine XS.ifYes X33.here hx rfl (pc0 := 64) (pc' := 71) rfl (hb hby at_64) rfl ((if0 _ _).trans (feq (own_lnz (own_nez hbb32) : ¬ ((lcmpW ((zn - (0 : Int32)).toInt64) (0 : Int64)) = (0 : Int32)))).2) (by decide) (by decide) ?_
      show Steps p.tables e below (T33.setTop (mkF m 71 #[.val (.int p0), .val (.int p1), .val (.int p2), .val (.int zn), .val (.ref ar3), .val (.ref b5), .val (.long ((zn - (0 : Int32)).toInt64)), .second, .val (.ref x33), .unset, .unset, .unset, .unset, .unset, .unset, .unset, .unset, .unset, .unset, .unset] [(.int (0 : Int32))])) _
      refine XS.iconst X33.here hx rfl (hb hby at_71) ?_
      show Steps p.tables e below (T33.setTop (mkF m 72 #[.val (.int p0), .val (.int p1), .val (.int p2), .val (.int zn), .val (.ref ar3), .val (.ref b5), .val (.long ((zn - (0 : Int32)).toInt64)), .second, .val (.ref x33), .unset, .unset, .unset, .unset, .unset, .unset, .unset, .unset, .unset, .unset, .unset] [(.int (0 : Int32)), (.int (0 : Int32))])) _
      refine XS.icmpYes X33.here hx rfl (pc0 := 72) (pc' := 77) rfl (hb hby at_72) rfl (teq (by decide : (0 : Int32) = (0 : Int32))).1 (by decide) (by decide) ?_
      show Steps p.tables e below (T33.setTop (mkF m 77 #[.val (.int p0), .val (.int p1), .val (.int p2), .val (.int zn), .val (.ref ar3), .val (.ref b5), .val (.long ((zn - (0 : Int32)).toInt64)), .second, .val (.ref x33), .unset, .unset, .unset, .unset, .unset, .unset, .unset, .unset, .unset, .unset, .unset] [])) _
      refine XS.aload X33.here hx rfl (hb hby at_77) rfl rfl ?_
      show Steps p.tables e below (T33.setTop (mkF m 79 #[.val (.int p0), .val (.int p1), .val (.int p2), .val (.int zn), .val (.ref ar3), .val (.ref b5), .val (.long ((zn - (0 : Int32)).toInt64)), .second, .val (.ref x33), .unset, .unset, .unset, .unset, .unset, .unset, .unset, .unset, .unset, .unset, .unset] [(.ref ar3)])) _
      refine XS.iconst X33.here hx rfl (hb hby at_79) ?_
      show Steps p.tables e below (T33.setTop (mkF m 80 #[.val (.int p0), .val (.int p1), .val (.int p2), .val (.int zn), .val (.ref ar3), .val (.ref b5), .val (.long ((zn - (0 : Int32)).toInt64)), .second, .val (.ref x33), .unset, .unset, .unset, .unset, .unset, .unset, .unset, .unset, .unset, .unset, .unset] [(.int (0 : Int32)), (.ref ar3)])) _
      refine st36 _ ?_
      show Steps p.tables e below (T36.setTop (mkF m 83 #[.val (.int p0), .val (.int p1), .val (.int p2), .val (.int zn), .val (.ref ar3), .val (.ref b5), .val (.long ((zn - (0 : Int32)).toInt64)), .second, .val (.ref x33), .unset, .unset, .unset, .unset, .unset, .unset, .unset, .unset, .unset, .unset, .unset] [(.int (own_after vs3 (.int (0 : Int32)) zn (0 : Int32)))])) _
      refine XS.istore X36.here hx rfl (hb hby at_83) rfl (l' := #[.val (.int p0), .val (.int p1), .val (.int p2), .val (.int zn), .val (.ref ar3), .val (.ref b5), .val (.long ((zn - (0 : Int32)).toInt64)), .second, .val (.ref x33), .val (.int (own_after vs3 (.int (0 : Int32)) zn (0 : Int32))), .unset, .unset, .unset, .unset, .unset, .unset, .unset, .unset, .unset, .unset]) rfl ?_
      show Steps p.tables e below (T36.setTop (mkF m 85 #[.val (.int p0), .val (.int p1), .val (.int p2), .val (.int zn), .val (.ref ar3), .val (.ref b5), .val (.long ((zn - (0 : Int32)).toInt64)), .second, .val (.ref x33), .val (.int (own_after vs3 (.int (0 : Int32)) zn (0 : Int32))), .unset, .unset, .unset, .unset, .unset, .unset, .unset, .unset, .unset, .unset] [])) _
      refine XS.aload X36.here hx rfl (hb hby at_85) rfl rfl ?_
      show Steps p.tables e below (T36.setTop (mkF m 87 #[.val (.int p0), .val (.int p1), .val (.int p2), .val (.int zn), .val (.ref ar3), .val (.ref b5), .val (.long ((zn - (0 : Int32)).toInt64)), .second, .val (.ref x33), .val (.int (own_after vs3 (.int (0 : Int32)) zn (0 : Int32))), .unset, .unset, .unset, .unset, .unset, .unset, .unset, .unset, .unset, .unset] [(.ref b5)])) _
      refine st37.trans ?_
      show Steps p.tables e below (T37.setTop (mkF m 90 #[.val (.int p0), .val (.int p1), .val (.int p2), .val (.int zn), .val (.ref ar3), .val (.ref b5), .val (.long ((zn - (0 : Int32)).toInt64)), .second, .val (.ref x33), .val (.int (own_after vs3 (.int (0 : Int32)) zn (0 : Int32))), .unset, .unset, .unset, .unset, .unset, .unset, .unset, .unset, .unset, .unset] [(.long ((zn - (own_after vs3 (.int (0 : Int32)) zn (0 : Int32))).toInt64))])) _
      refine XS.lstore X37.here hx rfl (hb hby at_90) rfl (l' := #[.val (.int p0), .val (.int p1), .val (.int p2), .val (.int zn), .val (.ref ar3), .val (.ref b5), .val (.long ((zn - (0 : Int32)).toInt64)), .second, .val (.ref x33), .val (.int (own_after vs3 (.int (0 : Int32)) zn (0 : Int32))), .val (.long ((zn - (own_after vs3 (.int (0 : Int32)) zn (0 : Int32))).toInt64)), .second, .unset, .unset, .unset, .unset, .unset, .unset, .unset, .unset]) rfl ?_
      show Steps p.tables e below (T37.setTop (mkF m 92 #[.val (.int p0), .val (.int p1), .val (.int p2), .val (.int zn), .val (.ref ar3), .val (.ref b5), .val (.long ((zn - (0 : Int32)).toInt64)), .second, .val (.ref x33), .val (.int (own_after vs3 (.int (0 : Int32)) zn (0 : Int32))), .val (.long ((zn - (own_after vs3 (.int (0 : Int32)) zn (0 : Int32))).toInt64)), .second, .unset, .unset, .unset, .unset, .unset, .unset, .unset, .unset] [])) _
      refine XS.lload X37.here hx rfl (hb hby at_92) rfl ?_
      show Steps p.tables e below (T37.setTop (mkF m 94 #[.val (.int p0), .val (.int p1), .val (.int p2), .val (.int zn), .val (.ref ar3), .val (.ref b5), .val (.long ((zn - (0 : Int32)).toInt64)), .second, .val (.ref x33), .val (.int (own_after vs3 (.int (0 : Int32)) zn (0 : Int32))), .val (.long ((zn - (own_after vs3 (.int (0 : Int32)) zn (0 : Int32))).toInt64)), .second, .unset, .unset, .unset, .unset, .unset, .unset, .unset, .unset] [(.long ((zn - (own_after vs3 (.int (0 : Int32)) zn (0 : Int32))).toInt64))])) _
      refine XS.iloadN X37.here hx rfl (hb hby at_94) rfl ?_
      show Steps p.tables e below (T37.setTop (mkF m 95 #[.val (.int p0), .val (.int p1), .val (.int p2), .val (.int zn), .val (.ref ar3), .val (.ref b5), .val (.long ((zn - (0 : Int32)).toInt64)), .second, .val (.ref x33), .val (.int (own_after vs3 (.int (0 : Int32)) zn (0 : Int32))), .val (.long ((zn - (own_after vs3 (.int (0 : Int32)) zn (0 : Int32))).toInt64)), .second, .unset, .unset, .unset, .unset, .unset, .unset, .unset, .unset] [(.int zn), (.long ((zn - (own_after vs3 (.int (0 : Int32)) zn (0 : Int32))).toInt64))])) _
      refine XS.iload X37.here hx rfl (hb hby at_95) rfl ?_
      show Steps p.tables e below (T37.setTop (mkF m 97 #[.val (.int p0), .val (.int p1), .val (.int p2), .val (.int zn), .val (.ref ar3), .val (.ref b5), .val (.long ((zn - (0 : Int32)).toInt64)), .second, .val (.ref x33), .val (.int (own_after vs3 (.int (0 : Int32)) zn (0 : Int32))), .val (.long ((zn - (own_after vs3 (.int (0 : Int32)) zn (0 : Int32))).toInt64)), .second, .unset, .unset, .unset, .unset, .unset, .unset, .unset, .unset] [(.int (own_after vs3 (.int (0 : Int32)) zn (0 : Int32))), (.int zn), (.long ((zn - (own_after vs3 (.int (0 : Int32)) zn (0 : Int32))).toInt64))])) _
      refine XS.isub X37.here hx rfl (hb hby at_97) rfl ?_
      show Steps p.tables e below (T37.setTop (mkF m 98 #[.val (.int p0), .val (.int p1), .val (.int p2), .val (.int zn), .val (.ref ar3), .val (.ref b5), .val (.long ((zn - (0 : Int32)).toInt64)), .second, .val (.ref x33), .val (.int (own_after vs3 (.int (0 : Int32)) zn (0 : Int32))), .val (.long ((zn - (own_after vs3 (.int (0 : Int32)) zn (0 : Int32))).toInt64)), .second, .unset, .unset, .unset, .unset, .unset, .unset, .unset, .unset] [(.int (zn - (own_after vs3 (.int (0 : Int32)) zn (0 : Int32)))), (.long ((zn - (own_after vs3 (.int (0 : Int32)) zn (0 : Int32))).toInt64))])) _
      refine XS.i2l X37.here hx rfl (hb hby at_98) rfl ?_
      show Steps p.tables e below (T37.setTop (mkF m 99 #[.val (.int p0), .val (.int p1), .val (.int p2), .val (.int zn), .val (.ref ar3), .val (.ref b5), .val (.long ((zn - (0 : Int32)).toInt64)), .second, .val (.ref x33), .val (.int (own_after vs3 (.int (0 : Int32)) zn (0 : Int32))), .val (.long ((zn - (own_after vs3 (.int (0 : Int32)) zn (0 : Int32))).toInt64)), .second, .unset, .unset, .unset, .unset, .unset, .unset, .unset, .unset] [(.long ((zn - (own_after vs3 (.int (0 : Int32)) zn (0 : Int32))).toInt64)), (.long ((zn - (own_after vs3 (.int (0 : Int32)) zn (0 : Int32))).toInt64))])) _
      refine XS.lcmp X37.here hx rfl (hb hby at_99) rfl ?_
      show Steps p.tables e below (T37.setTop (mkF m 100 #[.val (.int p0), .val (.int p1), .val (.int p2), .val (.int zn), .val (.ref ar3), .val (.ref b5), .val (.long ((zn - (0 : Int32)).toInt64)), .second, .val (.ref x33), .val (.int (own_after vs3 (.int (0 : Int32)) zn (0 : Int32))), .val (.long ((zn - (own_after vs3 (.int (0 : Int32)) zn (0 : Int32))).toInt64)), .second, .unset, .unset, .unset, .unset, .unset, .unset, .unset, .unset] [(.int (lcmpW ((zn - (own_after vs3 (.int (0 : Int32)) zn (0 : Int32))).toInt64) ((zn - (own_after vs3 (.int (0 : Int32)) zn (0 : Int32))).toInt64)))])) _
      refine XS.ifYes X37.here hx rfl (pc0 := 100) (pc' := 105) rfl (hb hby at_100) rfl ((if0 _ _).trans (teq (own_lc _ : (lcmpW ((zn - (own_after vs3 (.int (0 : Int32)) zn (0 : Int32))).toInt64) ((zn - (own_after vs3 (.int (0 : Int32)) zn (0 : Int32))).toInt64)) = (0 : Int32))).1) (by decide) (by decide) ?_
      exact k
    by_cases hs_39 : (own_after vs3 (.int (0 : Int32)) zn (0 : Int32)) = zn
    · obtain ⟨cq40, kq40, q40a, q40b, q40c⟩ := isOf hZ e37 E_b5_33
      obtain ⟨_, _, ⟨T40, L40, k40, n40⟩, -, X40, ⟨Lc40, hQ40, l40, y40, z40⟩, st40⟩ := X37.virtualBack hx (y := (⟨"quorumkeep/store/Messages$Reader", "next", "()[B"⟩ : MethodName)) (z := (⟨"quorumkeep/store/Messages$Reader", "next", "()[B"⟩ : MethodName)) hown (mvT hZ (hw _ (List.mem_of_getElem? (i := 38) rfl))) (mvT hZ (hw _ (List.mem_of_getElem? (i := 39) rfl))) (notFace_of_selects (args := #[]) (mvT hZ (hw _ (List.mem_of_getElem? (i := 41) rfl)))) (mvT hZ (hw _ (List.mem_of_getElem? (i := 41) rfl))) (mvT hZ (hw _ (List.mem_of_getElem? (i := 40) rfl))) (by decide) (backOf (W := 0) (rmnextN l Z a0 hw [] b5 ar3 zn vs3 (.int (0 : Int32)) l233 (own_after vs3 (.int (0 : Int32)) zn (0 : Int32)) T33.heap n0 Z34 (own_cast hs_39 rd33) (own_a3 hzb hs_39) g_b5) hZ (hw _ (List.mem_of_getElem? (i := 42) rfl)) (hw _ (List.mem_of_getElem? (i := 8) rfl)) (by decide) (by decide)) q40a q40c (g := (mkF m 107 #[.val (.int p0), .val (.int p1), .val (.int p2), .val (.int zn), .val (.ref ar3), .val (.ref b5), .val (.long ((zn - (0 : Int32)).toInt64)), .second, .val (.ref x33), .val (.int (own_after vs3 (.int (0 : Int32)) zn (0 : Int32))), .val (.long ((zn - (own_after vs3 (.int (0 : Int32)) zn (0 : Int32))).toInt64)), .second, .unset, .unset, .unset, .unset, .unset, .unset, .unset, .unset] [(.ref b5)])) rfl (by rw [hml]; rfl) (Steps.refl _) (argsL := []) (rest := []) (lenOf pd_12 rfl) rfl (by show 2 * 0 + _ ≤ _; exact Nat.le_of_eq rfl) (hb hby at_107) (fun _ _ => ⟨rfl, e37, (by decide : 4 + 0 ≤ _), (by decide : 24 + 0 ≤ _)⟩)
      dsimp only [Pt.U, Pt.locs, Pt.cells, Pt.slots] at X40 l40 y40 z40 st40 hQ40
      subst l40 y40 z40
      obtain ⟨rfl, Nq40, Kq40, rd40⟩ := hQ40
      have N40 := Fr.app N37 Nq40
      have Z41 : n0 ≤ T40.heap.size := Nat.le_trans Z34 Kq40.1
      have hs40 : (own_after vs3 (.int (0 : Int32)) zn (own_after vs3 (.int (0 : Int32)) zn (0 : Int32))) = zn := own_a3 hzb hs_39
      have rdc_40 := rd40
      obtain ⟨E_b5_40, F_line_40, F_length_40, F_budget_40, F_buffer_40, F_end_40, F_read_40, F_start_40, F_held_40, F_atEnd_40, ⟨u_size_40, F_size_40⟩, ⟨u_keep_40, F_keepable_40⟩⟩ := rdc_40
      have c42 : Arv Z T40.heap ar3 kk3 .byte zn vs3 (.int (0 : Int32)) := (c35.keep Kq40 (ninS (Ne.symm ne_ra) nin0))
      obtain ⟨_, _, ⟨T43, L43, k43, n43⟩, -, X43, ⟨Lc43, hQ43, l43, y43, z43⟩, st43⟩ := Jvm.LawKit.callS X40 hx (y := (⟨"quorumkeep/store/ReaderMostMessagesLeftPinLaw", "after", "([BI)I"⟩ : MethodName)) hown (mvT hZ (hw _ (List.mem_of_getElem? (i := 69) rfl))) (mvT hZ (hw _ (List.mem_of_getElem? (i := 70) rfl))) (mvT hZ (hw _ (List.mem_of_getElem? (i := 3) rfl))) (mvT hZ (hw _ (List.mem_of_getElem? (i := 71) rfl))) (by decide) (backOf (W := 0) (rmafter l Z a0 hw [] ar3 (own_after vs3 (.int (0 : Int32)) zn (0 : Int32)) kk3 zn vs3 (.int (0 : Int32)) T40.heap n0 Z41 c42) hZ (hw _ (List.mem_of_getElem? (i := 71) rfl)) (hw _ (List.mem_of_getElem? (i := 3) rfl)) (by decide) (by decide)) (g := (mkF m 143 #[.val (.int p0), .val (.int p1), .val (.int p2), .val (.int zn), .val (.ref ar3), .val (.ref b5), .val (.long ((zn - (0 : Int32)).toInt64)), .second, .val (.ref x33), .val (.int (own_after vs3 (.int (0 : Int32)) zn (0 : Int32))), .val (.long ((zn - (own_after vs3 (.int (0 : Int32)) zn (0 : Int32))).toInt64)), .second, .val .null, .unset, .unset, .unset, .unset, .unset, .unset, .unset] [(.int (own_after vs3 (.int (0 : Int32)) zn (0 : Int32))), (.ref ar3)])) rfl (by rw [hml]; rfl) (argsL := [(.ref ar3), (.int (own_after vs3 (.int (0 : Int32)) zn (0 : Int32)))]) (rest := []) (lenOf pd_13 rfl) rfl (by show 2 * 0 + _ ≤ _; exact Nat.le_of_eq rfl) (hb hby at_143) (fun _ _ => ⟨rfl, rfl, (by decide : 4 + 0 ≤ _), (by decide : 24 + 0 ≤ _)⟩)
      dsimp only [Pt.U, Pt.locs, Pt.cells, Pt.slots] at X43 l43 y43 z43 st43 hQ43
      subst l43 y43 z43
      obtain ⟨rfl, Nq43, hh43⟩ := hQ43
      have N43 := Fr.app N40 Nq43
      have e43 : T43.heap = T40.heap := hh43
      obtain ⟨cq44, kq44, q44a, q44b, q44c⟩ := isOf hZ e43 E_b5_40
      obtain ⟨_, _, ⟨T44, L44, k44, n44⟩, -, X44, ⟨Lc44, hQ44, l44, y44, z44⟩, st44⟩ := X43.virtualBack hx (y := (⟨"quorumkeep/store/Messages$Reader", "mostMessagesLeft", "()J"⟩ : MethodName)) (z := (⟨"quorumkeep/store/Messages$Reader", "mostMessagesLeft", "()J"⟩ : MethodName)) hown (mvT hZ (hw _ (List.mem_of_getElem? (i := 31) rfl))) (mvT hZ (hw _ (List.mem_of_getElem? (i := 32) rfl))) (notFace_of_selects (args := #[]) (mvT hZ (hw _ (List.mem_of_getElem? (i := 34) rfl)))) (mvT hZ (hw _ (List.mem_of_getElem? (i := 34) rfl))) (mvT hZ (hw _ (List.mem_of_getElem? (i := 33) rfl))) (by decide) (backOf (W := 0) (rmmm l Z a0 hw [] b5 zn (own_after vs3 (.int (0 : Int32)) zn (own_after vs3 (.int (0 : Int32)) zn (0 : Int32))) T40.heap n0 Z41 F_length_40 F_end_40 F_start_40 F_read_40 (own_z0 hz)) hZ (hw _ (List.mem_of_getElem? (i := 35) rfl)) (hw _ (List.mem_of_getElem? (i := 8) rfl)) (by decide) (by decide)) q44a q44c (g := (mkF m 150 #[.val (.int p0), .val (.int p1), .val (.int p2), .val (.int zn), .val (.ref ar3), .val (.ref b5), .val (.long ((zn - (0 : Int32)).toInt64)), .second, .val (.ref x33), .val (.int (own_after vs3 (.int (0 : Int32)) zn (0 : Int32))), .val (.long ((zn - (own_after vs3 (.int (0 : Int32)) zn (0 : Int32))).toInt64)), .second, .val .null, .val (.int (own_after vs3 (.int (0 : Int32)) zn (own_after vs3 (.int (0 : Int32)) zn (0 : Int32)))), .unset, .unset, .unset, .unset, .unset, .unset] [(.ref b5)])) rfl (by rw [hml]; rfl) (Steps.refl _) (argsL := []) (rest := []) (lenOf pd_11 rfl) rfl (by show 2 * 0 + _ ≤ _; exact Nat.le_of_eq rfl) (hb hby at_150) (fun _ _ => ⟨rfl, e43, (by decide : 4 + 0 ≤ _), (by decide : 24 + 0 ≤ _)⟩)
      dsimp only [Pt.U, Pt.locs, Pt.cells, Pt.slots] at X44 l44 y44 z44 st44 hQ44
      subst l44 y44 z44
      obtain ⟨rfl, Nq44, hh44⟩ := hQ44
      have N44 := Fr.app N43 Nq44
      have e44 : T44.heap = T40.heap := hh44
      obtain ⟨cq45, kq45, q45a, q45b, q45c⟩ := isOf hZ e44 E_b5_40
      obtain ⟨_, _, ⟨T45, L45, k45, n45⟩, -, X45, ⟨Lc45, hQ45, l45, y45, z45⟩, st45⟩ := X44.virtualBack hx (y := (⟨"quorumkeep/store/Messages$Reader", "next", "()[B"⟩ : MethodName)) (z := (⟨"quorumkeep/store/Messages$Reader", "next", "()[B"⟩ : MethodName)) hown (mvT hZ (hw _ (List.mem_of_getElem? (i := 38) rfl))) (mvT hZ (hw _ (List.mem_of_getElem? (i := 39) rfl))) (notFace_of_selects (args := #[]) (mvT hZ (hw _ (List.mem_of_getElem? (i := 41) rfl)))) (mvT hZ (hw _ (List.mem_of_getElem? (i := 41) rfl))) (mvT hZ (hw _ (List.mem_of_getElem? (i := 40) rfl))) (by decide) (backOf (W := 0) (rmnextN l Z a0 hw [] b5 ar3 zn vs3 (.int (0 : Int32)) l233 (own_after vs3 (.int (0 : Int32)) zn (own_after vs3 (.int (0 : Int32)) zn (0 : Int32))) T40.heap n0 Z41 (own_cast hs40 rd40) (own_a3 hzb hs40) g_b5) hZ (hw _ (List.mem_of_getElem? (i := 42) rfl)) (hw _ (List.mem_of_getElem? (i := 8) rfl)) (by decide) (by decide)) q45a q45c (g := (mkF m 170 #[.val (.int p0), .val (.int p1), .val (.int p2), .val (.int zn), .val (.ref ar3), .val (.ref b5), .val (.long ((zn - (0 : Int32)).toInt64)), .second, .val (.ref x33), .val (.int (own_after vs3 (.int (0 : Int32)) zn (0 : Int32))), .val (.long ((zn - (own_after vs3 (.int (0 : Int32)) zn (0 : Int32))).toInt64)), .second, .val .null, .val (.int (own_after vs3 (.int (0 : Int32)) zn (own_after vs3 (.int (0 : Int32)) zn (0 : Int32)))), .val (.long ((zn - (own_after vs3 (.int (0 : Int32)) zn (own_after vs3 (.int (0 : Int32)) zn (0 : Int32)))).toInt64)), .second, .unset, .unset, .unset, .unset] [(.ref b5)])) rfl (by rw [hml]; rfl) (Steps.refl _) (argsL := []) (rest := []) (lenOf pd_12 rfl) rfl (by show 2 * 0 + _ ≤ _; exact Nat.le_of_eq rfl) (hb hby at_170) (fun _ _ => ⟨rfl, e44, (by decide : 4 + 0 ≤ _), (by decide : 24 + 0 ≤ _)⟩)
      dsimp only [Pt.U, Pt.locs, Pt.cells, Pt.slots] at X45 l45 y45 z45 st45 hQ45
      subst l45 y45 z45
      obtain ⟨rfl, Nq45, Kq45, rd45⟩ := hQ45
      have N45 := Fr.app N44 Nq45
      have Z46 : n0 ≤ T45.heap.size := Nat.le_trans Z41 Kq45.1
      have hs45 : (own_after vs3 (.int (0 : Int32)) zn (own_after vs3 (.int (0 : Int32)) zn (own_after vs3 (.int (0 : Int32)) zn (0 : Int32)))) = zn := own_a3 hzb hs40
      have rdc_45 := rd45
      obtain ⟨E_b5_45, F_line_45, F_length_45, F_budget_45, F_buffer_45, F_end_45, F_read_45, F_start_45, F_held_45, F_atEnd_45, ⟨u_size_45, F_size_45⟩, ⟨u_keep_45, F_keepable_45⟩⟩ := rdc_45
      have c47 : Arv Z T45.heap ar3 kk3 .byte zn vs3 (.int (0 : Int32)) := (c42.keep Kq45 (ninS (Ne.symm ne_ra) nin0))
      obtain ⟨_, _, ⟨T48, L48, k48, n48⟩, -, X48, ⟨Lc48, hQ48, l48, y48, z48⟩, st48⟩ := Jvm.LawKit.callS X45 hx (y := (⟨"quorumkeep/store/ReaderMostMessagesLeftPinLaw", "after", "([BI)I"⟩ : MethodName)) hown (mvT hZ (hw _ (List.mem_of_getElem? (i := 69) rfl))) (mvT hZ (hw _ (List.mem_of_getElem? (i := 70) rfl))) (mvT hZ (hw _ (List.mem_of_getElem? (i := 3) rfl))) (mvT hZ (hw _ (List.mem_of_getElem? (i := 71) rfl))) (by decide) (backOf (W := 0) (rmafter l Z a0 hw [] ar3 (own_after vs3 (.int (0 : Int32)) zn (own_after vs3 (.int (0 : Int32)) zn (0 : Int32))) kk3 zn vs3 (.int (0 : Int32)) T45.heap n0 Z46 c47) hZ (hw _ (List.mem_of_getElem? (i := 71) rfl)) (hw _ (List.mem_of_getElem? (i := 3) rfl)) (by decide) (by decide)) (g := (mkF m 206 #[.val (.int p0), .val (.int p1), .val (.int p2), .val (.int zn), .val (.ref ar3), .val (.ref b5), .val (.long ((zn - (0 : Int32)).toInt64)), .second, .val (.ref x33), .val (.int (own_after vs3 (.int (0 : Int32)) zn (0 : Int32))), .val (.long ((zn - (own_after vs3 (.int (0 : Int32)) zn (0 : Int32))).toInt64)), .second, .val .null, .val (.int (own_after vs3 (.int (0 : Int32)) zn (own_after vs3 (.int (0 : Int32)) zn (0 : Int32)))), .val (.long ((zn - (own_after vs3 (.int (0 : Int32)) zn (own_after vs3 (.int (0 : Int32)) zn (0 : Int32)))).toInt64)), .second, .val .null, .unset, .unset, .unset] [(.int (own_after vs3 (.int (0 : Int32)) zn (own_after vs3 (.int (0 : Int32)) zn (0 : Int32)))), (.ref ar3)])) rfl (by rw [hml]; rfl) (argsL := [(.ref ar3), (.int (own_after vs3 (.int (0 : Int32)) zn (own_after vs3 (.int (0 : Int32)) zn (0 : Int32))))]) (rest := []) (lenOf pd_13 rfl) rfl (by show 2 * 0 + _ ≤ _; exact Nat.le_of_eq rfl) (hb hby at_206) (fun _ _ => ⟨rfl, rfl, (by decide : 4 + 0 ≤ _), (by decide : 24 + 0 ≤ _)⟩)
      dsimp only [Pt.U, Pt.locs, Pt.cells, Pt.slots] at X48 l48 y48 z48 st48 hQ48
      subst l48 y48 z48
      obtain ⟨rfl, Nq48, hh48⟩ := hQ48
      have N48 := Fr.app N45 Nq48
      have e48 : T48.heap = T45.heap := hh48
      obtain ⟨cq49, kq49, q49a, q49b, q49c⟩ := isOf hZ e48 E_b5_45
      obtain ⟨_, _, ⟨T49, L49, k49, n49⟩, -, X49, ⟨Lc49, hQ49, l49, y49, z49⟩, st49⟩ := X48.virtualBack hx (y := (⟨"quorumkeep/store/Messages$Reader", "mostMessagesLeft", "()J"⟩ : MethodName)) (z := (⟨"quorumkeep/store/Messages$Reader", "mostMessagesLeft", "()J"⟩ : MethodName)) hown (mvT hZ (hw _ (List.mem_of_getElem? (i := 31) rfl))) (mvT hZ (hw _ (List.mem_of_getElem? (i := 32) rfl))) (notFace_of_selects (args := #[]) (mvT hZ (hw _ (List.mem_of_getElem? (i := 34) rfl)))) (mvT hZ (hw _ (List.mem_of_getElem? (i := 34) rfl))) (mvT hZ (hw _ (List.mem_of_getElem? (i := 33) rfl))) (by decide) (backOf (W := 0) (rmmm l Z a0 hw [] b5 zn (own_after vs3 (.int (0 : Int32)) zn (own_after vs3 (.int (0 : Int32)) zn (own_after vs3 (.int (0 : Int32)) zn (0 : Int32)))) T45.heap n0 Z46 F_length_45 F_end_45 F_start_45 F_read_45 (own_z0 hz)) hZ (hw _ (List.mem_of_getElem? (i := 35) rfl)) (hw _ (List.mem_of_getElem? (i := 8) rfl)) (by decide) (by decide)) q49a q49c (g := (mkF m 213 #[.val (.int p0), .val (.int p1), .val (.int p2), .val (.int zn), .val (.ref ar3), .val (.ref b5), .val (.long ((zn - (0 : Int32)).toInt64)), .second, .val (.ref x33), .val (.int (own_after vs3 (.int (0 : Int32)) zn (0 : Int32))), .val (.long ((zn - (own_after vs3 (.int (0 : Int32)) zn (0 : Int32))).toInt64)), .second, .val .null, .val (.int (own_after vs3 (.int (0 : Int32)) zn (own_after vs3 (.int (0 : Int32)) zn (0 : Int32)))), .val (.long ((zn - (own_after vs3 (.int (0 : Int32)) zn (own_after vs3 (.int (0 : Int32)) zn (0 : Int32)))).toInt64)), .second, .val .null, .val (.int (own_after vs3 (.int (0 : Int32)) zn (own_after vs3 (.int (0 : Int32)) zn (own_after vs3 (.int (0 : Int32)) zn (0 : Int32))))), .unset, .unset] [(.ref b5)])) rfl (by rw [hml]; rfl) (Steps.refl _) (argsL := []) (rest := []) (lenOf pd_11 rfl) rfl (by show 2 * 0 + _ ≤ _; exact Nat.le_of_eq rfl) (hb hby at_213) (fun _ _ => ⟨rfl, e48, (by decide : 4 + 0 ≤ _), (by decide : 24 + 0 ≤ _)⟩)
      dsimp only [Pt.U, Pt.locs, Pt.cells, Pt.slots] at X49 l49 y49 z49 st49 hQ49
      subst l49 y49 z49
      obtain ⟨rfl, Nq49, hh49⟩ := hQ49
      have N49 := Fr.app N48 Nq49
      have e49 : T49.heap = T45.heap := hh49
      have pre50 : ∀ t, Steps p.tables e below (T49.setTop (mkF m 234 #[.val (.int p0), .val (.int p1), .val (.int p2), .val (.int zn), .val (.ref ar3), .val (.ref b5), .val (.long ((zn - (0 : Int32)).toInt64)), .second, .val (.ref x33), .val (.int (own_after vs3 (.int (0 : Int32)) zn (0 : Int32))), .val (.long ((zn - (own_after vs3 (.int (0 : Int32)) zn (0 : Int32))).toInt64)), .second, .val .null, .val (.int (own_after vs3 (.int (0 : Int32)) zn (own_after vs3 (.int (0 : Int32)) zn (0 : Int32)))), .val (.long ((zn - (own_after vs3 (.int (0 : Int32)) zn (own_after vs3 (.int (0 : Int32)) zn (0 : Int32)))).toInt64)), .second, .val .null, .val (.int (own_after vs3 (.int (0 : Int32)) zn (own_after vs3 (.int (0 : Int32)) zn (own_after vs3 (.int (0 : Int32)) zn (0 : Int32))))), .val (.long ((zn - (own_after vs3 (.int (0 : Int32)) zn (own_after vs3 (.int (0 : Int32)) zn (own_after vs3 (.int (0 : Int32)) zn (0 : Int32))))).toInt64)), .second] [(.int (1 : Int32))])) t → Steps p.tables e below (s₁.setTop (entryFrame m #[(.int p0), (.int p1), (.int p2)] maxLocals)) t := fun t k => by
        refine pre38 t ?_
        show Steps p.tables e below (T37.setTop (mkF m 105 #[.val (.int p0), .val (.int p1), .val (.int p2), .val (.int zn), .val (.ref ar3), .val (.ref b5), .val (.long ((zn - (0 : Int32)).toInt64)), .second, .val (.ref x33), .val (.int (own_after vs3 (.int (0 : Int32)) zn (0 : Int32))), .val (.long ((zn - (own_after vs3 (.int (0 : Int32)) zn (0 : Int32))).toInt64)), .second, .unset, .unset, .unset, .unset, .unset, .unset, .unset, .unset] [])) _
        refine XS.aload X37.here hx rfl (hb hby at_105) rfl rfl ?_
        show Steps p.tables e below (T37.setTop (mkF m 107 #[.val (.int p0), .val (.int p1), .val (.int p2), .val (.int zn), .val (.ref ar3), .val (.ref b5), .val (.long ((zn - (0 : Int32)).toInt64)), .second, .val (.ref x33), .val (.int (own_after vs3 (.int (0 : Int32)) zn (0 : Int32))), .val (.long ((zn - (own_after vs3 (.int (0 : Int32)) zn (0 : Int32))).toInt64)), .second, .unset, .unset, .unset, .unset, .unset, .unset, .unset, .unset] [(.ref b5)])) _
        refine st40.trans ?_
        show Steps p.tables e below (T40.setTop (mkF m 110 #[.val (.int p0), .val (.int p1), .val (.int p2), .val (.int zn), .val (.ref ar3), .val (.ref b5), .val (.long ((zn - (0 : Int32)).toInt64)), .second, .val (.ref x33), .val (.int (own_after vs3 (.int (0 : Int32)) zn (0 : Int32))), .val (.long ((zn - (own_after vs3 (.int (0 : Int32)) zn (0 : Int32))).toInt64)), .second, .unset, .unset, .unset, .unset, .unset, .unset, .unset, .unset] [.null])) _
        refine XS.astore X40.here hx rfl (hb hby at_110) rfl rfl (l' := #[.val (.int p0), .val (.int p1), .val (.int p2), .val (.int zn), .val (.ref ar3), .val (.ref b5), .val (.long ((zn - (0 : Int32)).toInt64)), .second, .val (.ref x33), .val (.int (own_after vs3 (.int (0 : Int32)) zn (0 : Int32))), .val (.long ((zn - (own_after vs3 (.int (0 : Int32)) zn (0 : Int32))).toInt64)), .second, .val .null, .unset, .unset, .unset, .unset, .unset, .unset, .unset]) rfl ?_
        show Steps p.tables e below (T40.setTop (mkF m 112 #[.val (.int p0), .val (.int p1), .val (.int p2), .val (.int zn), .val (.ref ar3), .val (.ref b5), .val (.long ((zn - (0 : Int32)).toInt64)), .second, .val (.ref x33), .val (.int (own_after vs3 (.int (0 : Int32)) zn (0 : Int32))), .val (.long ((zn - (own_after vs3 (.int (0 : Int32)) zn (0 : Int32))).toInt64)), .second, .val .null, .unset, .unset, .unset, .unset, .unset, .unset, .unset] [])) _
        refine XS.aload X40.here hx rfl (hb hby at_112) rfl rfl ?_
        show Steps p.tables e below (T40.setTop (mkF m 114 #[.val (.int p0), .val (.int p1), .val (.int p2), .val (.int zn), .val (.ref ar3), .val (.ref b5), .val (.long ((zn - (0 : Int32)).toInt64)), .second, .val (.ref x33), .val (.int (own_after vs3 (.int (0 : Int32)) zn (0 : Int32))), .val (.long ((zn - (own_after vs3 (.int (0 : Int32)) zn (0 : Int32))).toInt64)), .second, .val .null, .unset, .unset, .unset, .unset, .unset, .unset, .unset] [.null])) _
        refine XS.ifnonnullNo X40.here hx rfl (hb hby at_114) rfl ?_
        show Steps p.tables e below (T40.setTop (mkF m 117 #[.val (.int p0), .val (.int p1), .val (.int p2), .val (.int zn), .val (.ref ar3), .val (.ref b5), .val (.long ((zn - (0 : Int32)).toInt64)), .second, .val (.ref x33), .val (.int (own_after vs3 (.int (0 : Int32)) zn (0 : Int32))), .val (.long ((zn - (own_after vs3 (.int (0 : Int32)) zn (0 : Int32))).toInt64)), .second, .val .null, .unset, .unset, .unset, .unset, .unset, .unset, .unset] [])) _
        refine XS.iconst X40.here hx rfl (hb hby at_117) ?_
        show Steps p.tables e below (T40.setTop (mkF m 118 #[.val (.int p0), .val (.int p1), .val (.int p2), .val (.int zn), .val (.ref ar3), .val (.ref b5), .val (.long ((zn - (0 : Int32)).toInt64)), .second, .val (.ref x33), .val (.int (own_after vs3 (.int (0 : Int32)) zn (0 : Int32))), .val (.long ((zn - (own_after vs3 (.int (0 : Int32)) zn (0 : Int32))).toInt64)), .second, .val .null, .unset, .unset, .unset, .unset, .unset, .unset, .unset] [(.int (1 : Int32))])) _
        refine XS.goto X40.here hx rfl (pc0 := 118) (pc' := 122) rfl (hb hby at_118) (by decide) (by decide) ?_
        show Steps p.tables e below (T40.setTop (mkF m 122 #[.val (.int p0), .val (.int p1), .val (.int p2), .val (.int zn), .val (.ref ar3), .val (.ref b5), .val (.long ((zn - (0 : Int32)).toInt64)), .second, .val (.ref x33), .val (.int (own_after vs3 (.int (0 : Int32)) zn (0 : Int32))), .val (.long ((zn - (own_after vs3 (.int (0 : Int32)) zn (0 : Int32))).toInt64)), .second, .val .null, .unset, .unset, .unset, .unset, .unset, .unset, .unset] [(.int (1 : Int32))])) _
        refine XS.lload X40.here hx rfl (hb hby at_122) rfl ?_
        show Steps p.tables e below (T40.setTop (mkF m 124 #[.val (.int p0), .val (.int p1), .val (.int p2), .val (.int zn), .val (.ref ar3), .val (.ref b5), .val (.long ((zn - (0 : Int32)).toInt64)), .second, .val (.ref x33), .val (.int (own_after vs3 (.int (0 : Int32)) zn (0 : Int32))), .val (.long ((zn - (own_after vs3 (.int (0 : Int32)) zn (0 : Int32))).toInt64)), .second, .val .null, .unset, .unset, .unset, .unset, .unset, .unset, .unset] [(.long ((zn - (own_after vs3 (.int (0 : Int32)) zn (0 : Int32))).toInt64)), (.int (1 : Int32))])) _
        refine XS.lconst X40.here hx rfl (hb hby at_124) ?_
        show Steps p.tables e below (T40.setTop (mkF m 125 #[.val (.int p0), .val (.int p1), .val (.int p2), .val (.int zn), .val (.ref ar3), .val (.ref b5), .val (.long ((zn - (0 : Int32)).toInt64)), .second, .val (.ref x33), .val (.int (own_after vs3 (.int (0 : Int32)) zn (0 : Int32))), .val (.long ((zn - (own_after vs3 (.int (0 : Int32)) zn (0 : Int32))).toInt64)), .second, .val .null, .unset, .unset, .unset, .unset, .unset, .unset, .unset] [(.long (0 : Int64)), (.long ((zn - (own_after vs3 (.int (0 : Int32)) zn (0 : Int32))).toInt64)), (.int (1 : Int32))])) _
        refine XS.lcmp X40.here hx rfl (hb hby at_125) rfl ?_
        show Steps p.tables e below (T40.setTop (mkF m 126 #[.val (.int p0), .val (.int p1), .val (.int p2), .val (.int zn), .val (.ref ar3), .val (.ref b5), .val (.long ((zn - (0 : Int32)).toInt64)), .second, .val (.ref x33), .val (.int (own_after vs3 (.int (0 : Int32)) zn (0 : Int32))), .val (.long ((zn - (own_after vs3 (.int (0 : Int32)) zn (0 : Int32))).toInt64)), .second, .val .null, .unset, .unset, .unset, .unset, .unset, .unset, .unset] [(.int (lcmpW ((zn - (own_after vs3 (.int (0 : Int32)) zn (0 : Int32))).toInt64) (0 : Int64))), (.int (1 : Int32))])) _
        refine XS.ifNo X40.here hx rfl (hb hby at_126) rfl ((if0 _ _).trans (teq (own_lz hs_39 : (lcmpW ((zn - (own_after vs3 (.int (0 : Int32)) zn (0 : Int32))).toInt64) (0 : Int64)) = (0 : Int32))).2) ?_
        show Steps p.tables e below (T40.setTop (mkF m 129 #[.val (.int p0), .val (.int p1), .val (.int p2), .val (.int zn), .val (.ref ar3), .val (.ref b5), .val (.long ((zn - (0 : Int32)).toInt64)), .second, .val (.ref x33), .val (.int (own_after vs3 (.int (0 : Int32)) zn (0 : Int32))), .val (.long ((zn - (own_after vs3 (.int (0 : Int32)) zn (0 : Int32))).toInt64)), .second, .val .null, .unset, .unset, .unset, .unset, .unset, .unset, .unset] [(.int (1 : Int32))])) _
        refine XS.iconst X40.here hx rfl (hb hby at_129) ?_
        show Steps p.tables e below (T40.setTop (mkF m 130 #[.val (.int p0), .val (.int p1), .val (.int p2), .val (.int zn), .val (.ref ar3), .val (.ref b5), .val (.long ((zn - (0 : Int32)).toInt64)), .second, .val (.ref x33), .val (.int (own_after vs3 (.int (0 : Int32)) zn (0 : Int32))), .val (.long ((zn - (own_after vs3 (.int (0 : Int32)) zn (0 : Int32))).toInt64)), .second, .val .null, .unset, .unset, .unset, .unset, .unset, .unset, .unset] [(.int (1 : Int32)), (.int (1 : Int32))])) _
        refine XS.goto X40.here hx rfl (pc0 := 130) (pc' := 134) rfl (hb hby at_130) (by decide) (by decide) ?_
        show Steps p.tables e below (T40.setTop (mkF m 134 #[.val (.int p0), .val (.int p1), .val (.int p2), .val (.int zn), .val (.ref ar3), .val (.ref b5), .val (.long ((zn - (0 : Int32)).toInt64)), .second, .val (.ref x33), .val (.int (own_after vs3 (.int (0 : Int32)) zn (0 : Int32))), .val (.long ((zn - (own_after vs3 (.int (0 : Int32)) zn (0 : Int32))).toInt64)), .second, .val .null, .unset, .unset, .unset, .unset, .unset, .unset, .unset] [(.int (1 : Int32)), (.int (1 : Int32))])) _
        refine XS.icmpYes X40.here hx rfl (pc0 := 134) (pc' := 139) rfl (hb hby at_134) rfl (teq (by decide : (1 : Int32) = (1 : Int32))).1 (by decide) (by decide) ?_
        show Steps p.tables e below (T40.setTop (mkF m 139 #[.val (.int p0), .val (.int p1), .val (.int p2), .val (.int zn), .val (.ref ar3), .val (.ref b5), .val (.long ((zn - (0 : Int32)).toInt64)), .second, .val (.ref x33), .val (.int (own_after vs3 (.int (0 : Int32)) zn (0 : Int32))), .val (.long ((zn - (own_after vs3 (.int (0 : Int32)) zn (0 : Int32))).toInt64)), .second, .val .null, .unset, .unset, .unset, .unset, .unset, .unset, .unset] [])) _
        refine XS.aload X40.here hx rfl (hb hby at_139) rfl rfl ?_
        show Steps p.tables e below (T40.setTop (mkF m 141 #[.val (.int p0), .val (.int p1), .val (.int p2), .val (.int zn), .val (.ref ar3), .val (.ref b5), .val (.long ((zn - (0 : Int32)).toInt64)), .second, .val (.ref x33), .val (.int (own_after vs3 (.int (0 : Int32)) zn (0 : Int32))), .val (.long ((zn - (own_after vs3 (.int (0 : Int32)) zn (0 : Int32))).toInt64)), .second, .val .null, .unset, .unset, .unset, .unset, .unset, .unset, .unset] [(.ref ar3)])) _
        refine XS.iload X40.here hx rfl (hb hby at_141) rfl ?_
        show Steps p.tables e below (T40.setTop (mkF m 143 #[.val (.int p0), .val (.int p1), .val (.int p2), .val (.int zn), .val (.ref ar3), .val (.ref b5), .val (.long ((zn - (0 : Int32)).toInt64)), .second, .val (.ref x33), .val (.int (own_after vs3 (.int (0 : Int32)) zn (0 : Int32))), .val (.long ((zn - (own_after vs3 (.int (0 : Int32)) zn (0 : Int32))).toInt64)), .second, .val .null, .unset, .unset, .unset, .unset, .unset, .unset, .unset] [(.int (own_after vs3 (.int (0 : Int32)) zn (0 : Int32))), (.ref ar3)])) _
        refine st43 _ ?_
        show Steps p.tables e below (T43.setTop (mkF m 146 #[.val (.int p0), .val (.int p1), .val (.int p2), .val (.int zn), .val (.ref ar3), .val (.ref b5), .val (.long ((zn - (0 : Int32)).toInt64)), .second, .val (.ref x33), .val (.int (own_after vs3 (.int (0 : Int32)) zn (0 : Int32))), .val (.long ((zn - (own_after vs3 (.int (0 : Int32)) zn (0 : Int32))).toInt64)), .second, .val .null, .unset, .unset, .unset, .unset, .unset, .unset, .unset] [(.int (own_after vs3 (.int (0 : Int32)) zn (own_after vs3 (.int (0 : Int32)) zn (0 : Int32))))])) _
        refine XS.istore X43.here hx rfl (hb hby at_146) rfl (l' := #[.val (.int p0), .val (.int p1), .val (.int p2), .val (.int zn), .val (.ref ar3), .val (.ref b5), .val (.long ((zn - (0 : Int32)).toInt64)), .second, .val (.ref x33), .val (.int (own_after vs3 (.int (0 : Int32)) zn (0 : Int32))), .val (.long ((zn - (own_after vs3 (.int (0 : Int32)) zn (0 : Int32))).toInt64)), .second, .val .null, .val (.int (own_after vs3 (.int (0 : Int32)) zn (own_after vs3 (.int (0 : Int32)) zn (0 : Int32)))), .unset, .unset, .unset, .unset, .unset, .unset]) rfl ?_
        show Steps p.tables e below (T43.setTop (mkF m 148 #[.val (.int p0), .val (.int p1), .val (.int p2), .val (.int zn), .val (.ref ar3), .val (.ref b5), .val (.long ((zn - (0 : Int32)).toInt64)), .second, .val (.ref x33), .val (.int (own_after vs3 (.int (0 : Int32)) zn (0 : Int32))), .val (.long ((zn - (own_after vs3 (.int (0 : Int32)) zn (0 : Int32))).toInt64)), .second, .val .null, .val (.int (own_after vs3 (.int (0 : Int32)) zn (own_after vs3 (.int (0 : Int32)) zn (0 : Int32)))), .unset, .unset, .unset, .unset, .unset, .unset] [])) _
        refine XS.aload X43.here hx rfl (hb hby at_148) rfl rfl ?_
        show Steps p.tables e below (T43.setTop (mkF m 150 #[.val (.int p0), .val (.int p1), .val (.int p2), .val (.int zn), .val (.ref ar3), .val (.ref b5), .val (.long ((zn - (0 : Int32)).toInt64)), .second, .val (.ref x33), .val (.int (own_after vs3 (.int (0 : Int32)) zn (0 : Int32))), .val (.long ((zn - (own_after vs3 (.int (0 : Int32)) zn (0 : Int32))).toInt64)), .second, .val .null, .val (.int (own_after vs3 (.int (0 : Int32)) zn (own_after vs3 (.int (0 : Int32)) zn (0 : Int32)))), .unset, .unset, .unset, .unset, .unset, .unset] [(.ref b5)])) _
        refine st44.trans ?_
        show Steps p.tables e below (T44.setTop (mkF m 153 #[.val (.int p0), .val (.int p1), .val (.int p2), .val (.int zn), .val (.ref ar3), .val (.ref b5), .val (.long ((zn - (0 : Int32)).toInt64)), .second, .val (.ref x33), .val (.int (own_after vs3 (.int (0 : Int32)) zn (0 : Int32))), .val (.long ((zn - (own_after vs3 (.int (0 : Int32)) zn (0 : Int32))).toInt64)), .second, .val .null, .val (.int (own_after vs3 (.int (0 : Int32)) zn (own_after vs3 (.int (0 : Int32)) zn (0 : Int32)))), .unset, .unset, .unset, .unset, .unset, .unset] [(.long ((zn - (own_after vs3 (.int (0 : Int32)) zn (own_after vs3 (.int (0 : Int32)) zn (0 : Int32)))).toInt64))])) _
        refine XS.lstore X44.here hx rfl (hb hby at_153) rfl (l' := #[.val (.int p0), .val (.int p1), .val (.int p2), .val (.int zn), .val (.ref ar3), .val (.ref b5), .val (.long ((zn - (0 : Int32)).toInt64)), .second, .val (.ref x33), .val (.int (own_after vs3 (.int (0 : Int32)) zn (0 : Int32))), .val (.long ((zn - (own_after vs3 (.int (0 : Int32)) zn (0 : Int32))).toInt64)), .second, .val .null, .val (.int (own_after vs3 (.int (0 : Int32)) zn (own_after vs3 (.int (0 : Int32)) zn (0 : Int32)))), .val (.long ((zn - (own_after vs3 (.int (0 : Int32)) zn (own_after vs3 (.int (0 : Int32)) zn (0 : Int32)))).toInt64)), .second, .unset, .unset, .unset, .unset]) rfl ?_
        show Steps p.tables e below (T44.setTop (mkF m 155 #[.val (.int p0), .val (.int p1), .val (.int p2), .val (.int zn), .val (.ref ar3), .val (.ref b5), .val (.long ((zn - (0 : Int32)).toInt64)), .second, .val (.ref x33), .val (.int (own_after vs3 (.int (0 : Int32)) zn (0 : Int32))), .val (.long ((zn - (own_after vs3 (.int (0 : Int32)) zn (0 : Int32))).toInt64)), .second, .val .null, .val (.int (own_after vs3 (.int (0 : Int32)) zn (own_after vs3 (.int (0 : Int32)) zn (0 : Int32)))), .val (.long ((zn - (own_after vs3 (.int (0 : Int32)) zn (own_after vs3 (.int (0 : Int32)) zn (0 : Int32)))).toInt64)), .second, .unset, .unset, .unset, .unset] [])) _
        refine XS.lload X44.here hx rfl (hb hby at_155) rfl ?_
        show Steps p.tables e below (T44.setTop (mkF m 157 #[.val (.int p0), .val (.int p1), .val (.int p2), .val (.int zn), .val (.ref ar3), .val (.ref b5), .val (.long ((zn - (0 : Int32)).toInt64)), .second, .val (.ref x33), .val (.int (own_after vs3 (.int (0 : Int32)) zn (0 : Int32))), .val (.long ((zn - (own_after vs3 (.int (0 : Int32)) zn (0 : Int32))).toInt64)), .second, .val .null, .val (.int (own_after vs3 (.int (0 : Int32)) zn (own_after vs3 (.int (0 : Int32)) zn (0 : Int32)))), .val (.long ((zn - (own_after vs3 (.int (0 : Int32)) zn (own_after vs3 (.int (0 : Int32)) zn (0 : Int32)))).toInt64)), .second, .unset, .unset, .unset, .unset] [(.long ((zn - (own_after vs3 (.int (0 : Int32)) zn (own_after vs3 (.int (0 : Int32)) zn (0 : Int32)))).toInt64))])) _
        refine XS.iloadN X44.here hx rfl (hb hby at_157) rfl ?_
        show Steps p.tables e below (T44.setTop (mkF m 158 #[.val (.int p0), .val (.int p1), .val (.int p2), .val (.int zn), .val (.ref ar3), .val (.ref b5), .val (.long ((zn - (0 : Int32)).toInt64)), .second, .val (.ref x33), .val (.int (own_after vs3 (.int (0 : Int32)) zn (0 : Int32))), .val (.long ((zn - (own_after vs3 (.int (0 : Int32)) zn (0 : Int32))).toInt64)), .second, .val .null, .val (.int (own_after vs3 (.int (0 : Int32)) zn (own_after vs3 (.int (0 : Int32)) zn (0 : Int32)))), .val (.long ((zn - (own_after vs3 (.int (0 : Int32)) zn (own_after vs3 (.int (0 : Int32)) zn (0 : Int32)))).toInt64)), .second, .unset, .unset, .unset, .unset] [(.int zn), (.long ((zn - (own_after vs3 (.int (0 : Int32)) zn (own_after vs3 (.int (0 : Int32)) zn (0 : Int32)))).toInt64))])) _
        refine XS.iload X44.here hx rfl (hb hby at_158) rfl ?_
        show Steps p.tables e below (T44.setTop (mkF m 160 #[.val (.int p0), .val (.int p1), .val (.int p2), .val (.int zn), .val (.ref ar3), .val (.ref b5), .val (.long ((zn - (0 : Int32)).toInt64)), .second, .val (.ref x33), .val (.int (own_after vs3 (.int (0 : Int32)) zn (0 : Int32))), .val (.long ((zn - (own_after vs3 (.int (0 : Int32)) zn (0 : Int32))).toInt64)), .second, .val .null, .val (.int (own_after vs3 (.int (0 : Int32)) zn (own_after vs3 (.int (0 : Int32)) zn (0 : Int32)))), .val (.long ((zn - (own_after vs3 (.int (0 : Int32)) zn (own_after vs3 (.int (0 : Int32)) zn (0 : Int32)))).toInt64)), .second, .unset, .unset, .unset, .unset] [(.int (own_after vs3 (.int (0 : Int32)) zn (own_after vs3 (.int (0 : Int32)) zn (0 : Int32)))), (.int zn), (.long ((zn - (own_after vs3 (.int (0 : Int32)) zn (own_after vs3 (.int (0 : Int32)) zn (0 : Int32)))).toInt64))])) _
        refine XS.isub X44.here hx rfl (hb hby at_160) rfl ?_
        show Steps p.tables e below (T44.setTop (mkF m 161 #[.val (.int p0), .val (.int p1), .val (.int p2), .val (.int zn), .val (.ref ar3), .val (.ref b5), .val (.long ((zn - (0 : Int32)).toInt64)), .second, .val (.ref x33), .val (.int (own_after vs3 (.int (0 : Int32)) zn (0 : Int32))), .val (.long ((zn - (own_after vs3 (.int (0 : Int32)) zn (0 : Int32))).toInt64)), .second, .val .null, .val (.int (own_after vs3 (.int (0 : Int32)) zn (own_after vs3 (.int (0 : Int32)) zn (0 : Int32)))), .val (.long ((zn - (own_after vs3 (.int (0 : Int32)) zn (own_after vs3 (.int (0 : Int32)) zn (0 : Int32)))).toInt64)), .second, .unset, .unset, .unset, .unset] [(.int (zn - (own_after vs3 (.int (0 : Int32)) zn (own_after vs3 (.int (0 : Int32)) zn (0 : Int32))))), (.long ((zn - (own_after vs3 (.int (0 : Int32)) zn (own_after vs3 (.int (0 : Int32)) zn (0 : Int32)))).toInt64))])) _
        refine XS.i2l X44.here hx rfl (hb hby at_161) rfl ?_
        show Steps p.tables e below (T44.setTop (mkF m 162 #[.val (.int p0), .val (.int p1), .val (.int p2), .val (.int zn), .val (.ref ar3), .val (.ref b5), .val (.long ((zn - (0 : Int32)).toInt64)), .second, .val (.ref x33), .val (.int (own_after vs3 (.int (0 : Int32)) zn (0 : Int32))), .val (.long ((zn - (own_after vs3 (.int (0 : Int32)) zn (0 : Int32))).toInt64)), .second, .val .null, .val (.int (own_after vs3 (.int (0 : Int32)) zn (own_after vs3 (.int (0 : Int32)) zn (0 : Int32)))), .val (.long ((zn - (own_after vs3 (.int (0 : Int32)) zn (own_after vs3 (.int (0 : Int32)) zn (0 : Int32)))).toInt64)), .second, .unset, .unset, .unset, .unset] [(.long ((zn - (own_after vs3 (.int (0 : Int32)) zn (own_after vs3 (.int (0 : Int32)) zn (0 : Int32)))).toInt64)), (.long ((zn - (own_after vs3 (.int (0 : Int32)) zn (own_after vs3 (.int (0 : Int32)) zn (0 : Int32)))).toInt64))])) _
        refine XS.lcmp X44.here hx rfl (hb hby at_162) rfl ?_
        show Steps p.tables e below (T44.setTop (mkF m 163 #[.val (.int p0), .val (.int p1), .val (.int p2), .val (.int zn), .val (.ref ar3), .val (.ref b5), .val (.long ((zn - (0 : Int32)).toInt64)), .second, .val (.ref x33), .val (.int (own_after vs3 (.int (0 : Int32)) zn (0 : Int32))), .val (.long ((zn - (own_after vs3 (.int (0 : Int32)) zn (0 : Int32))).toInt64)), .second, .val .null, .val (.int (own_after vs3 (.int (0 : Int32)) zn (own_after vs3 (.int (0 : Int32)) zn (0 : Int32)))), .val (.long ((zn - (own_after vs3 (.int (0 : Int32)) zn (own_after vs3 (.int (0 : Int32)) zn (0 : Int32)))).toInt64)), .second, .unset, .unset, .unset, .unset] [(.int (lcmpW ((zn - (own_after vs3 (.int (0 : Int32)) zn (own_after vs3 (.int (0 : Int32)) zn (0 : Int32)))).toInt64) ((zn - (own_after vs3 (.int (0 : Int32)) zn (own_after vs3 (.int (0 : Int32)) zn (0 : Int32)))).toInt64)))])) _
        refine XS.ifYes X44.here hx rfl (pc0 := 163) (pc' := 168) rfl (hb hby at_163) rfl ((if0 _ _).trans (teq (own_lc _ : (lcmpW ((zn - (own_after vs3 (.int (0 : Int32)) zn (own_after vs3 (.int (0 : Int32)) zn (0 : Int32)))).toInt64) ((zn - (own_after vs3 (.int (0 : Int32)) zn (own_after vs3 (.int (0 : Int32)) zn (0 : Int32)))).toInt64)) = (0 : Int32))).1) (by decide) (by decide) ?_
        show Steps p.tables e below (T44.setTop (mkF m 168 #[.val (.int p0), .val (.int p1), .val (.int p2), .val (.int zn), .val (.ref ar3), .val (.ref b5), .val (.long ((zn - (0 : Int32)).toInt64)), .second, .val (.ref x33), .val (.int (own_after vs3 (.int (0 : Int32)) zn (0 : Int32))), .val (.long ((zn - (own_after vs3 (.int (0 : Int32)) zn (0 : Int32))).toInt64)), .second, .val .null, .val (.int (own_after vs3 (.int (0 : Int32)) zn (own_after vs3 (.int (0 : Int32)) zn (0 : Int32)))), .val (.long ((zn - (own_after vs3 (.int (0 : Int32)) zn (own_after vs3 (.int (0 : Int32)) zn (0 : Int32)))).toInt64)), .second, .unset, .unset, .unset, .unset] [])) _
        refine XS.aload X44.here hx rfl (hb hby at_168) rfl rfl ?_
        show Steps p.tables e below (T44.setTop (mkF m 170 #[.val (.int p0), .val (.int p1), .val (.int p2), .val (.int zn), .val (.ref ar3), .val (.ref b5), .val (.long ((zn - (0 : Int32)).toInt64)), .second, .val (.ref x33), .val (.int (own_after vs3 (.int (0 : Int32)) zn (0 : Int32))), .val (.long ((zn - (own_after vs3 (.int (0 : Int32)) zn (0 : Int32))).toInt64)), .second, .val .null, .val (.int (own_after vs3 (.int (0 : Int32)) zn (own_after vs3 (.int (0 : Int32)) zn (0 : Int32)))), .val (.long ((zn - (own_after vs3 (.int (0 : Int32)) zn (own_after vs3 (.int (0 : Int32)) zn (0 : Int32)))).toInt64)), .second, .unset, .unset, .unset, .unset] [(.ref b5)])) _
        refine st45.trans ?_
        show Steps p.tables e below (T45.setTop (mkF m 173 #[.val (.int p0), .val (.int p1), .val (.int p2), .val (.int zn), .val (.ref ar3), .val (.ref b5), .val (.long ((zn - (0 : Int32)).toInt64)), .second, .val (.ref x33), .val (.int (own_after vs3 (.int (0 : Int32)) zn (0 : Int32))), .val (.long ((zn - (own_after vs3 (.int (0 : Int32)) zn (0 : Int32))).toInt64)), .second, .val .null, .val (.int (own_after vs3 (.int (0 : Int32)) zn (own_after vs3 (.int (0 : Int32)) zn (0 : Int32)))), .val (.long ((zn - (own_after vs3 (.int (0 : Int32)) zn (own_after vs3 (.int (0 : Int32)) zn (0 : Int32)))).toInt64)), .second, .unset, .unset, .unset, .unset] [.null])) _
        refine XS.astore X45.here hx rfl (hb hby at_173) rfl rfl (l' := #[.val (.int p0), .val (.int p1), .val (.int p2), .val (.int zn), .val (.ref ar3), .val (.ref b5), .val (.long ((zn - (0 : Int32)).toInt64)), .second, .val (.ref x33), .val (.int (own_after vs3 (.int (0 : Int32)) zn (0 : Int32))), .val (.long ((zn - (own_after vs3 (.int (0 : Int32)) zn (0 : Int32))).toInt64)), .second, .val .null, .val (.int (own_after vs3 (.int (0 : Int32)) zn (own_after vs3 (.int (0 : Int32)) zn (0 : Int32)))), .val (.long ((zn - (own_after vs3 (.int (0 : Int32)) zn (own_after vs3 (.int (0 : Int32)) zn (0 : Int32)))).toInt64)), .second, .val .null, .unset, .unset, .unset]) rfl ?_
        show Steps p.tables e below (T45.setTop (mkF m 175 #[.val (.int p0), .val (.int p1), .val (.int p2), .val (.int zn), .val (.ref ar3), .val (.ref b5), .val (.long ((zn - (0 : Int32)).toInt64)), .second, .val (.ref x33), .val (.int (own_after vs3 (.int (0 : Int32)) zn (0 : Int32))), .val (.long ((zn - (own_after vs3 (.int (0 : Int32)) zn (0 : Int32))).toInt64)), .second, .val .null, .val (.int (own_after vs3 (.int (0 : Int32)) zn (own_after vs3 (.int (0 : Int32)) zn (0 : Int32)))), .val (.long ((zn - (own_after vs3 (.int (0 : Int32)) zn (own_after vs3 (.int (0 : Int32)) zn (0 : Int32)))).toInt64)), .second, .val .null, .unset, .unset, .unset] [])) _
        refine XS.aload X45.here hx rfl (hb hby at_175) rfl rfl ?_
        show Steps p.tables e below (T45.setTop (mkF m 177 #[.val (.int p0), .val (.int p1), .val (.int p2), .val (.int zn), .val (.ref ar3), .val (.ref b5), .val (.long ((zn - (0 : Int32)).toInt64)), .second, .val (.ref x33), .val (.int (own_after vs3 (.int (0 : Int32)) zn (0 : Int32))), .val (.long ((zn - (own_after vs3 (.int (0 : Int32)) zn (0 : Int32))).toInt64)), .second, .val .null, .val (.int (own_after vs3 (.int (0 : Int32)) zn (own_after vs3 (.int (0 : Int32)) zn (0 : Int32)))), .val (.long ((zn - (own_after vs3 (.int (0 : Int32)) zn (own_after vs3 (.int (0 : Int32)) zn (0 : Int32)))).toInt64)), .second, .val .null, .unset, .unset, .unset] [.null])) _
        refine XS.ifnonnullNo X45.here hx rfl (hb hby at_177) rfl ?_
        show Steps p.tables e below (T45.setTop (mkF m 180 #[.val (.int p0), .val (.int p1), .val (.int p2), .val (.int zn), .val (.ref ar3), .val (.ref b5), .val (.long ((zn - (0 : Int32)).toInt64)), .second, .val (.ref x33), .val (.int (own_after vs3 (.int (0 : Int32)) zn (0 : Int32))), .val (.long ((zn - (own_after vs3 (.int (0 : Int32)) zn (0 : Int32))).toInt64)), .second, .val .null, .val (.int (own_after vs3 (.int (0 : Int32)) zn (own_after vs3 (.int (0 : Int32)) zn (0 : Int32)))), .val (.long ((zn - (own_after vs3 (.int (0 : Int32)) zn (own_after vs3 (.int (0 : Int32)) zn (0 : Int32)))).toInt64)), .second, .val .null, .unset, .unset, .unset] [])) _
        refine XS.iconst X45.here hx rfl (hb hby at_180) ?_
        show Steps p.tables e below (T45.setTop (mkF m 181 #[.val (.int p0), .val (.int p1), .val (.int p2), .val (.int zn), .val (.ref ar3), .val (.ref b5), .val (.long ((zn - (0 : Int32)).toInt64)), .second, .val (.ref x33), .val (.int (own_after vs3 (.int (0 : Int32)) zn (0 : Int32))), .val (.long ((zn - (own_after vs3 (.int (0 : Int32)) zn (0 : Int32))).toInt64)), .second, .val .null, .val (.int (own_after vs3 (.int (0 : Int32)) zn (own_after vs3 (.int (0 : Int32)) zn (0 : Int32)))), .val (.long ((zn - (own_after vs3 (.int (0 : Int32)) zn (own_after vs3 (.int (0 : Int32)) zn (0 : Int32)))).toInt64)), .second, .val .null, .unset, .unset, .unset] [(.int (1 : Int32))])) _
        refine XS.goto X45.here hx rfl (pc0 := 181) (pc' := 185) rfl (hb hby at_181) (by decide) (by decide) ?_
        show Steps p.tables e below (T45.setTop (mkF m 185 #[.val (.int p0), .val (.int p1), .val (.int p2), .val (.int zn), .val (.ref ar3), .val (.ref b5), .val (.long ((zn - (0 : Int32)).toInt64)), .second, .val (.ref x33), .val (.int (own_after vs3 (.int (0 : Int32)) zn (0 : Int32))), .val (.long ((zn - (own_after vs3 (.int (0 : Int32)) zn (0 : Int32))).toInt64)), .second, .val .null, .val (.int (own_after vs3 (.int (0 : Int32)) zn (own_after vs3 (.int (0 : Int32)) zn (0 : Int32)))), .val (.long ((zn - (own_after vs3 (.int (0 : Int32)) zn (own_after vs3 (.int (0 : Int32)) zn (0 : Int32)))).toInt64)), .second, .val .null, .unset, .unset, .unset] [(.int (1 : Int32))])) _
        refine XS.lload X45.here hx rfl (hb hby at_185) rfl ?_
        show Steps p.tables e below (T45.setTop (mkF m 187 #[.val (.int p0), .val (.int p1), .val (.int p2), .val (.int zn), .val (.ref ar3), .val (.ref b5), .val (.long ((zn - (0 : Int32)).toInt64)), .second, .val (.ref x33), .val (.int (own_after vs3 (.int (0 : Int32)) zn (0 : Int32))), .val (.long ((zn - (own_after vs3 (.int (0 : Int32)) zn (0 : Int32))).toInt64)), .second, .val .null, .val (.int (own_after vs3 (.int (0 : Int32)) zn (own_after vs3 (.int (0 : Int32)) zn (0 : Int32)))), .val (.long ((zn - (own_after vs3 (.int (0 : Int32)) zn (own_after vs3 (.int (0 : Int32)) zn (0 : Int32)))).toInt64)), .second, .val .null, .unset, .unset, .unset] [(.long ((zn - (own_after vs3 (.int (0 : Int32)) zn (own_after vs3 (.int (0 : Int32)) zn (0 : Int32)))).toInt64)), (.int (1 : Int32))])) _
        refine XS.lconst X45.here hx rfl (hb hby at_187) ?_
        show Steps p.tables e below (T45.setTop (mkF m 188 #[.val (.int p0), .val (.int p1), .val (.int p2), .val (.int zn), .val (.ref ar3), .val (.ref b5), .val (.long ((zn - (0 : Int32)).toInt64)), .second, .val (.ref x33), .val (.int (own_after vs3 (.int (0 : Int32)) zn (0 : Int32))), .val (.long ((zn - (own_after vs3 (.int (0 : Int32)) zn (0 : Int32))).toInt64)), .second, .val .null, .val (.int (own_after vs3 (.int (0 : Int32)) zn (own_after vs3 (.int (0 : Int32)) zn (0 : Int32)))), .val (.long ((zn - (own_after vs3 (.int (0 : Int32)) zn (own_after vs3 (.int (0 : Int32)) zn (0 : Int32)))).toInt64)), .second, .val .null, .unset, .unset, .unset] [(.long (0 : Int64)), (.long ((zn - (own_after vs3 (.int (0 : Int32)) zn (own_after vs3 (.int (0 : Int32)) zn (0 : Int32)))).toInt64)), (.int (1 : Int32))])) _
        refine XS.lcmp X45.here hx rfl (hb hby at_188) rfl ?_
        show Steps p.tables e below (T45.setTop (mkF m 189 #[.val (.int p0), .val (.int p1), .val (.int p2), .val (.int zn), .val (.ref ar3), .val (.ref b5), .val (.long ((zn - (0 : Int32)).toInt64)), .second, .val (.ref x33), .val (.int (own_after vs3 (.int (0 : Int32)) zn (0 : Int32))), .val (.long ((zn - (own_after vs3 (.int (0 : Int32)) zn (0 : Int32))).toInt64)), .second, .val .null, .val (.int (own_after vs3 (.int (0 : Int32)) zn (own_after vs3 (.int (0 : Int32)) zn (0 : Int32)))), .val (.long ((zn - (own_after vs3 (.int (0 : Int32)) zn (own_after vs3 (.int (0 : Int32)) zn (0 : Int32)))).toInt64)), .second, .val .null, .unset, .unset, .unset] [(.int (lcmpW ((zn - (own_after vs3 (.int (0 : Int32)) zn (own_after vs3 (.int (0 : Int32)) zn (0 : Int32)))).toInt64) (0 : Int64))), (.int (1 : Int32))])) _
        refine XS.ifNo X45.here hx rfl (hb hby at_189) rfl ((if0 _ _).trans (teq (own_lz hs40 : (lcmpW ((zn - (own_after vs3 (.int (0 : Int32)) zn (own_after vs3 (.int (0 : Int32)) zn (0 : Int32)))).toInt64) (0 : Int64)) = (0 : Int32))).2) ?_
        show Steps p.tables e below (T45.setTop (mkF m 192 #[.val (.int p0), .val (.int p1), .val (.int p2), .val (.int zn), .val (.ref ar3), .val (.ref b5), .val (.long ((zn - (0 : Int32)).toInt64)), .second, .val (.ref x33), .val (.int (own_after vs3 (.int (0 : Int32)) zn (0 : Int32))), .val (.long ((zn - (own_after vs3 (.int (0 : Int32)) zn (0 : Int32))).toInt64)), .second, .val .null, .val (.int (own_after vs3 (.int (0 : Int32)) zn (own_after vs3 (.int (0 : Int32)) zn (0 : Int32)))), .val (.long ((zn - (own_after vs3 (.int (0 : Int32)) zn (own_after vs3 (.int (0 : Int32)) zn (0 : Int32)))).toInt64)), .second, .val .null, .unset, .unset, .unset] [(.int (1 : Int32))])) _
        refine XS.iconst X45.here hx rfl (hb hby at_192) ?_
        show Steps p.tables e below (T45.setTop (mkF m 193 #[.val (.int p0), .val (.int p1), .val (.int p2), .val (.int zn), .val (.ref ar3), .val (.ref b5), .val (.long ((zn - (0 : Int32)).toInt64)), .second, .val (.ref x33), .val (.int (own_after vs3 (.int (0 : Int32)) zn (0 : Int32))), .val (.long ((zn - (own_after vs3 (.int (0 : Int32)) zn (0 : Int32))).toInt64)), .second, .val .null, .val (.int (own_after vs3 (.int (0 : Int32)) zn (own_after vs3 (.int (0 : Int32)) zn (0 : Int32)))), .val (.long ((zn - (own_after vs3 (.int (0 : Int32)) zn (own_after vs3 (.int (0 : Int32)) zn (0 : Int32)))).toInt64)), .second, .val .null, .unset, .unset, .unset] [(.int (1 : Int32)), (.int (1 : Int32))])) _
        refine XS.goto X45.here hx rfl (pc0 := 193) (pc' := 197) rfl (hb hby at_193) (by decide) (by decide) ?_
        show Steps p.tables e below (T45.setTop (mkF m 197 #[.val (.int p0), .val (.int p1), .val (.int p2), .val (.int zn), .val (.ref ar3), .val (.ref b5), .val (.long ((zn - (0 : Int32)).toInt64)), .second, .val (.ref x33), .val (.int (own_after vs3 (.int (0 : Int32)) zn (0 : Int32))), .val (.long ((zn - (own_after vs3 (.int (0 : Int32)) zn (0 : Int32))).toInt64)), .second, .val .null, .val (.int (own_after vs3 (.int (0 : Int32)) zn (own_after vs3 (.int (0 : Int32)) zn (0 : Int32)))), .val (.long ((zn - (own_after vs3 (.int (0 : Int32)) zn (own_after vs3 (.int (0 : Int32)) zn (0 : Int32)))).toInt64)), .second, .val .null, .unset, .unset, .unset] [(.int (1 : Int32)), (.int (1 : Int32))])) _
        refine XS.icmpYes X45.here hx rfl (pc0 := 197) (pc' := 202) rfl (hb hby at_197) rfl (teq (by decide : (1 : Int32) = (1 : Int32))).1 (by decide) (by decide) ?_
        show Steps p.tables e below (T45.setTop (mkF m 202 #[.val (.int p0), .val (.int p1), .val (.int p2), .val (.int zn), .val (.ref ar3), .val (.ref b5), .val (.long ((zn - (0 : Int32)).toInt64)), .second, .val (.ref x33), .val (.int (own_after vs3 (.int (0 : Int32)) zn (0 : Int32))), .val (.long ((zn - (own_after vs3 (.int (0 : Int32)) zn (0 : Int32))).toInt64)), .second, .val .null, .val (.int (own_after vs3 (.int (0 : Int32)) zn (own_after vs3 (.int (0 : Int32)) zn (0 : Int32)))), .val (.long ((zn - (own_after vs3 (.int (0 : Int32)) zn (own_after vs3 (.int (0 : Int32)) zn (0 : Int32)))).toInt64)), .second, .val .null, .unset, .unset, .unset] [])) _
        refine XS.aload X45.here hx rfl (hb hby at_202) rfl rfl ?_
        show Steps p.tables e below (T45.setTop (mkF m 204 #[.val (.int p0), .val (.int p1), .val (.int p2), .val (.int zn), .val (.ref ar3), .val (.ref b5), .val (.long ((zn - (0 : Int32)).toInt64)), .second, .val (.ref x33), .val (.int (own_after vs3 (.int (0 : Int32)) zn (0 : Int32))), .val (.long ((zn - (own_after vs3 (.int (0 : Int32)) zn (0 : Int32))).toInt64)), .second, .val .null, .val (.int (own_after vs3 (.int (0 : Int32)) zn (own_after vs3 (.int (0 : Int32)) zn (0 : Int32)))), .val (.long ((zn - (own_after vs3 (.int (0 : Int32)) zn (own_after vs3 (.int (0 : Int32)) zn (0 : Int32)))).toInt64)), .second, .val .null, .unset, .unset, .unset] [(.ref ar3)])) _
        refine XS.iload X45.here hx rfl (hb hby at_204) rfl ?_
        show Steps p.tables e below (T45.setTop (mkF m 206 #[.val (.int p0), .val (.int p1), .val (.int p2), .val (.int zn), .val (.ref ar3), .val (.ref b5), .val (.long ((zn - (0 : Int32)).toInt64)), .second, .val (.ref x33), .val (.int (own_after vs3 (.int (0 : Int32)) zn (0 : Int32))), .val (.long ((zn - (own_after vs3 (.int (0 : Int32)) zn (0 : Int32))).toInt64)), .second, .val .null, .val (.int (own_after vs3 (.int (0 : Int32)) zn (own_after vs3 (.int (0 : Int32)) zn (0 : Int32)))), .val (.long ((zn - (own_after vs3 (.int (0 : Int32)) zn (own_after vs3 (.int (0 : Int32)) zn (0 : Int32)))).toInt64)), .second, .val .null, .unset, .unset, .unset] [(.int (own_after vs3 (.int (0 : Int32)) zn (own_after vs3 (.int (0 : Int32)) zn (0 : Int32)))), (.ref ar3)])) _
        refine st48 _ ?_
        show Steps p.tables e below (T48.setTop (mkF m 209 #[.val (.int p0), .val (.int p1), .val (.int p2), .val (.int zn), .val (.ref ar3), .val (.ref b5), .val (.long ((zn - (0 : Int32)).toInt64)), .second, .val (.ref x33), .val (.int (own_after vs3 (.int (0 : Int32)) zn (0 : Int32))), .val (.long ((zn - (own_after vs3 (.int (0 : Int32)) zn (0 : Int32))).toInt64)), .second, .val .null, .val (.int (own_after vs3 (.int (0 : Int32)) zn (own_after vs3 (.int (0 : Int32)) zn (0 : Int32)))), .val (.long ((zn - (own_after vs3 (.int (0 : Int32)) zn (own_after vs3 (.int (0 : Int32)) zn (0 : Int32)))).toInt64)), .second, .val .null, .unset, .unset, .unset] [(.int (own_after vs3 (.int (0 : Int32)) zn (own_after vs3 (.int (0 : Int32)) zn (own_after vs3 (.int (0 : Int32)) zn (0 : Int32)))))])) _
        refine XS.istore X48.here hx rfl (hb hby at_209) rfl (l' := #[.val (.int p0), .val (.int p1), .val (.int p2), .val (.int zn), .val (.ref ar3), .val (.ref b5), .val (.long ((zn - (0 : Int32)).toInt64)), .second, .val (.ref x33), .val (.int (own_after vs3 (.int (0 : Int32)) zn (0 : Int32))), .val (.long ((zn - (own_after vs3 (.int (0 : Int32)) zn (0 : Int32))).toInt64)), .second, .val .null, .val (.int (own_after vs3 (.int (0 : Int32)) zn (own_after vs3 (.int (0 : Int32)) zn (0 : Int32)))), .val (.long ((zn - (own_after vs3 (.int (0 : Int32)) zn (own_after vs3 (.int (0 : Int32)) zn (0 : Int32)))).toInt64)), .second, .val .null, .val (.int (own_after vs3 (.int (0 : Int32)) zn (own_after vs3 (.int (0 : Int32)) zn (own_after vs3 (.int (0 : Int32)) zn (0 : Int32))))), .unset, .unset]) rfl ?_
        show Steps p.tables e below (T48.setTop (mkF m 211 #[.val (.int p0), .val (.int p1), .val (.int p2), .val (.int zn), .val (.ref ar3), .val (.ref b5), .val (.long ((zn - (0 : Int32)).toInt64)), .second, .val (.ref x33), .val (.int (own_after vs3 (.int (0 : Int32)) zn (0 : Int32))), .val (.long ((zn - (own_after vs3 (.int (0 : Int32)) zn (0 : Int32))).toInt64)), .second, .val .null, .val (.int (own_after vs3 (.int (0 : Int32)) zn (own_after vs3 (.int (0 : Int32)) zn (0 : Int32)))), .val (.long ((zn - (own_after vs3 (.int (0 : Int32)) zn (own_after vs3 (.int (0 : Int32)) zn (0 : Int32)))).toInt64)), .second, .val .null, .val (.int (own_after vs3 (.int (0 : Int32)) zn (own_after vs3 (.int (0 : Int32)) zn (own_after vs3 (.int (0 : Int32)) zn (0 : Int32))))), .unset, .unset] [])) _
        refine XS.aload X48.here hx rfl (hb hby at_211) rfl rfl ?_
        show Steps p.tables e below (T48.setTop (mkF m 213 #[.val (.int p0), .val (.int p1), .val (.int p2), .val (.int zn), .val (.ref ar3), .val (.ref b5), .val (.long ((zn - (0 : Int32)).toInt64)), .second, .val (.ref x33), .val (.int (own_after vs3 (.int (0 : Int32)) zn (0 : Int32))), .val (.long ((zn - (own_after vs3 (.int (0 : Int32)) zn (0 : Int32))).toInt64)), .second, .val .null, .val (.int (own_after vs3 (.int (0 : Int32)) zn (own_after vs3 (.int (0 : Int32)) zn (0 : Int32)))), .val (.long ((zn - (own_after vs3 (.int (0 : Int32)) zn (own_after vs3 (.int (0 : Int32)) zn (0 : Int32)))).toInt64)), .second, .val .null, .val (.int (own_after vs3 (.int (0 : Int32)) zn (own_after vs3 (.int (0 : Int32)) zn (own_after vs3 (.int (0 : Int32)) zn (0 : Int32))))), .unset, .unset] [(.ref b5)])) _
        refine st49.trans ?_
        show Steps p.tables e below (T49.setTop (mkF m 216 #[.val (.int p0), .val (.int p1), .val (.int p2), .val (.int zn), .val (.ref ar3), .val (.ref b5), .val (.long ((zn - (0 : Int32)).toInt64)), .second, .val (.ref x33), .val (.int (own_after vs3 (.int (0 : Int32)) zn (0 : Int32))), .val (.long ((zn - (own_after vs3 (.int (0 : Int32)) zn (0 : Int32))).toInt64)), .second, .val .null, .val (.int (own_after vs3 (.int (0 : Int32)) zn (own_after vs3 (.int (0 : Int32)) zn (0 : Int32)))), .val (.long ((zn - (own_after vs3 (.int (0 : Int32)) zn (own_after vs3 (.int (0 : Int32)) zn (0 : Int32)))).toInt64)), .second, .val .null, .val (.int (own_after vs3 (.int (0 : Int32)) zn (own_after vs3 (.int (0 : Int32)) zn (own_after vs3 (.int (0 : Int32)) zn (0 : Int32))))), .unset, .unset] [(.long ((zn - (own_after vs3 (.int (0 : Int32)) zn (own_after vs3 (.int (0 : Int32)) zn (own_after vs3 (.int (0 : Int32)) zn (0 : Int32))))).toInt64))])) _
        refine XS.lstore X49.here hx rfl (hb hby at_216) rfl (l' := #[.val (.int p0), .val (.int p1), .val (.int p2), .val (.int zn), .val (.ref ar3), .val (.ref b5), .val (.long ((zn - (0 : Int32)).toInt64)), .second, .val (.ref x33), .val (.int (own_after vs3 (.int (0 : Int32)) zn (0 : Int32))), .val (.long ((zn - (own_after vs3 (.int (0 : Int32)) zn (0 : Int32))).toInt64)), .second, .val .null, .val (.int (own_after vs3 (.int (0 : Int32)) zn (own_after vs3 (.int (0 : Int32)) zn (0 : Int32)))), .val (.long ((zn - (own_after vs3 (.int (0 : Int32)) zn (own_after vs3 (.int (0 : Int32)) zn (0 : Int32)))).toInt64)), .second, .val .null, .val (.int (own_after vs3 (.int (0 : Int32)) zn (own_after vs3 (.int (0 : Int32)) zn (own_after vs3 (.int (0 : Int32)) zn (0 : Int32))))), .val (.long ((zn - (own_after vs3 (.int (0 : Int32)) zn (own_after vs3 (.int (0 : Int32)) zn (own_after vs3 (.int (0 : Int32)) zn (0 : Int32))))).toInt64)), .second]) rfl ?_
        show Steps p.tables e below (T49.setTop (mkF m 218 #[.val (.int p0), .val (.int p1), .val (.int p2), .val (.int zn), .val (.ref ar3), .val (.ref b5), .val (.long ((zn - (0 : Int32)).toInt64)), .second, .val (.ref x33), .val (.int (own_after vs3 (.int (0 : Int32)) zn (0 : Int32))), .val (.long ((zn - (own_after vs3 (.int (0 : Int32)) zn (0 : Int32))).toInt64)), .second, .val .null, .val (.int (own_after vs3 (.int (0 : Int32)) zn (own_after vs3 (.int (0 : Int32)) zn (0 : Int32)))), .val (.long ((zn - (own_after vs3 (.int (0 : Int32)) zn (own_after vs3 (.int (0 : Int32)) zn (0 : Int32)))).toInt64)), .second, .val .null, .val (.int (own_after vs3 (.int (0 : Int32)) zn (own_after vs3 (.int (0 : Int32)) zn (own_after vs3 (.int (0 : Int32)) zn (0 : Int32))))), .val (.long ((zn - (own_after vs3 (.int (0 : Int32)) zn (own_after vs3 (.int (0 : Int32)) zn (own_after vs3 (.int (0 : Int32)) zn (0 : Int32))))).toInt64)), .second] [])) _
        refine XS.lload X49.here hx rfl (hb hby at_218) rfl ?_
        show Steps p.tables e below (T49.setTop (mkF m 220 #[.val (.int p0), .val (.int p1), .val (.int p2), .val (.int zn), .val (.ref ar3), .val (.ref b5), .val (.long ((zn - (0 : Int32)).toInt64)), .second, .val (.ref x33), .val (.int (own_after vs3 (.int (0 : Int32)) zn (0 : Int32))), .val (.long ((zn - (own_after vs3 (.int (0 : Int32)) zn (0 : Int32))).toInt64)), .second, .val .null, .val (.int (own_after vs3 (.int (0 : Int32)) zn (own_after vs3 (.int (0 : Int32)) zn (0 : Int32)))), .val (.long ((zn - (own_after vs3 (.int (0 : Int32)) zn (own_after vs3 (.int (0 : Int32)) zn (0 : Int32)))).toInt64)), .second, .val .null, .val (.int (own_after vs3 (.int (0 : Int32)) zn (own_after vs3 (.int (0 : Int32)) zn (own_after vs3 (.int (0 : Int32)) zn (0 : Int32))))), .val (.long ((zn - (own_after vs3 (.int (0 : Int32)) zn (own_after vs3 (.int (0 : Int32)) zn (own_after vs3 (.int (0 : Int32)) zn (0 : Int32))))).toInt64)), .second] [(.long ((zn - (own_after vs3 (.int (0 : Int32)) zn (own_after vs3 (.int (0 : Int32)) zn (own_after vs3 (.int (0 : Int32)) zn (0 : Int32))))).toInt64))])) _
        refine XS.iloadN X49.here hx rfl (hb hby at_220) rfl ?_
        show Steps p.tables e below (T49.setTop (mkF m 221 #[.val (.int p0), .val (.int p1), .val (.int p2), .val (.int zn), .val (.ref ar3), .val (.ref b5), .val (.long ((zn - (0 : Int32)).toInt64)), .second, .val (.ref x33), .val (.int (own_after vs3 (.int (0 : Int32)) zn (0 : Int32))), .val (.long ((zn - (own_after vs3 (.int (0 : Int32)) zn (0 : Int32))).toInt64)), .second, .val .null, .val (.int (own_after vs3 (.int (0 : Int32)) zn (own_after vs3 (.int (0 : Int32)) zn (0 : Int32)))), .val (.long ((zn - (own_after vs3 (.int (0 : Int32)) zn (own_after vs3 (.int (0 : Int32)) zn (0 : Int32)))).toInt64)), .second, .val .null, .val (.int (own_after vs3 (.int (0 : Int32)) zn (own_after vs3 (.int (0 : Int32)) zn (own_after vs3 (.int (0 : Int32)) zn (0 : Int32))))), .val (.long ((zn - (own_after vs3 (.int (0 : Int32)) zn (own_after vs3 (.int (0 : Int32)) zn (own_after vs3 (.int (0 : Int32)) zn (0 : Int32))))).toInt64)), .second] [(.int zn), (.long ((zn - (own_after vs3 (.int (0 : Int32)) zn (own_after vs3 (.int (0 : Int32)) zn (own_after vs3 (.int (0 : Int32)) zn (0 : Int32))))).toInt64))])) _
        refine XS.iload X49.here hx rfl (hb hby at_221) rfl ?_
        show Steps p.tables e below (T49.setTop (mkF m 223 #[.val (.int p0), .val (.int p1), .val (.int p2), .val (.int zn), .val (.ref ar3), .val (.ref b5), .val (.long ((zn - (0 : Int32)).toInt64)), .second, .val (.ref x33), .val (.int (own_after vs3 (.int (0 : Int32)) zn (0 : Int32))), .val (.long ((zn - (own_after vs3 (.int (0 : Int32)) zn (0 : Int32))).toInt64)), .second, .val .null, .val (.int (own_after vs3 (.int (0 : Int32)) zn (own_after vs3 (.int (0 : Int32)) zn (0 : Int32)))), .val (.long ((zn - (own_after vs3 (.int (0 : Int32)) zn (own_after vs3 (.int (0 : Int32)) zn (0 : Int32)))).toInt64)), .second, .val .null, .val (.int (own_after vs3 (.int (0 : Int32)) zn (own_after vs3 (.int (0 : Int32)) zn (own_after vs3 (.int (0 : Int32)) zn (0 : Int32))))), .val (.long ((zn - (own_after vs3 (.int (0 : Int32)) zn (own_after vs3 (.int (0 : Int32)) zn (own_after vs3 (.int (0 : Int32)) zn (0 : Int32))))).toInt64)), .second] [(.int (own_after vs3 (.int (0 : Int32)) zn (own_after vs3 (.int (0 : Int32)) zn (own_after vs3 (.int (0 : Int32)) zn (0 : Int32))))), (.int zn), (.long ((zn - (own_after vs3 (.int (0 : Int32)) zn (own_after vs3 (.int (0 : Int32)) zn (own_after vs3 (.int (0 : Int32)) zn (0 : Int32))))).toInt64))])) _
        refine XS.isub X49.here hx rfl (hb hby at_223) rfl ?_
        show Steps p.tables e below (T49.setTop (mkF m 224 #[.val (.int p0), .val (.int p1), .val (.int p2), .val (.int zn), .val (.ref ar3), .val (.ref b5), .val (.long ((zn - (0 : Int32)).toInt64)), .second, .val (.ref x33), .val (.int (own_after vs3 (.int (0 : Int32)) zn (0 : Int32))), .val (.long ((zn - (own_after vs3 (.int (0 : Int32)) zn (0 : Int32))).toInt64)), .second, .val .null, .val (.int (own_after vs3 (.int (0 : Int32)) zn (own_after vs3 (.int (0 : Int32)) zn (0 : Int32)))), .val (.long ((zn - (own_after vs3 (.int (0 : Int32)) zn (own_after vs3 (.int (0 : Int32)) zn (0 : Int32)))).toInt64)), .second, .val .null, .val (.int (own_after vs3 (.int (0 : Int32)) zn (own_after vs3 (.int (0 : Int32)) zn (own_after vs3 (.int (0 : Int32)) zn (0 : Int32))))), .val (.long ((zn - (own_after vs3 (.int (0 : Int32)) zn (own_after vs3 (.int (0 : Int32)) zn (own_after vs3 (.int (0 : Int32)) zn (0 : Int32))))).toInt64)), .second] [(.int (zn - (own_after vs3 (.int (0 : Int32)) zn (own_after vs3 (.int (0 : Int32)) zn (own_after vs3 (.int (0 : Int32)) zn (0 : Int32)))))), (.long ((zn - (own_after vs3 (.int (0 : Int32)) zn (own_after vs3 (.int (0 : Int32)) zn (own_after vs3 (.int (0 : Int32)) zn (0 : Int32))))).toInt64))])) _
        refine XS.i2l X49.here hx rfl (hb hby at_224) rfl ?_
        show Steps p.tables e below (T49.setTop (mkF m 225 #[.val (.int p0), .val (.int p1), .val (.int p2), .val (.int zn), .val (.ref ar3), .val (.ref b5), .val (.long ((zn - (0 : Int32)).toInt64)), .second, .val (.ref x33), .val (.int (own_after vs3 (.int (0 : Int32)) zn (0 : Int32))), .val (.long ((zn - (own_after vs3 (.int (0 : Int32)) zn (0 : Int32))).toInt64)), .second, .val .null, .val (.int (own_after vs3 (.int (0 : Int32)) zn (own_after vs3 (.int (0 : Int32)) zn (0 : Int32)))), .val (.long ((zn - (own_after vs3 (.int (0 : Int32)) zn (own_after vs3 (.int (0 : Int32)) zn (0 : Int32)))).toInt64)), .second, .val .null, .val (.int (own_after vs3 (.int (0 : Int32)) zn (own_after vs3 (.int (0 : Int32)) zn (own_after vs3 (.int (0 : Int32)) zn (0 : Int32))))), .val (.long ((zn - (own_after vs3 (.int (0 : Int32)) zn (own_after vs3 (.int (0 : Int32)) zn (own_after vs3 (.int (0 : Int32)) zn (0 : Int32))))).toInt64)), .second] [(.long ((zn - (own_after vs3 (.int (0 : Int32)) zn (own_after vs3 (.int (0 : Int32)) zn (own_after vs3 (.int (0 : Int32)) zn (0 : Int32))))).toInt64)), (.long ((zn - (own_after vs3 (.int (0 : Int32)) zn (own_after vs3 (.int (0 : Int32)) zn (own_after vs3 (.int (0 : Int32)) zn (0 : Int32))))).toInt64))])) _
        refine XS.lcmp X49.here hx rfl (hb hby at_225) rfl ?_
        show Steps p.tables e below (T49.setTop (mkF m 226 #[.val (.int p0), .val (.int p1), .val (.int p2), .val (.int zn), .val (.ref ar3), .val (.ref b5), .val (.long ((zn - (0 : Int32)).toInt64)), .second, .val (.ref x33), .val (.int (own_after vs3 (.int (0 : Int32)) zn (0 : Int32))), .val (.long ((zn - (own_after vs3 (.int (0 : Int32)) zn (0 : Int32))).toInt64)), .second, .val .null, .val (.int (own_after vs3 (.int (0 : Int32)) zn (own_after vs3 (.int (0 : Int32)) zn (0 : Int32)))), .val (.long ((zn - (own_after vs3 (.int (0 : Int32)) zn (own_after vs3 (.int (0 : Int32)) zn (0 : Int32)))).toInt64)), .second, .val .null, .val (.int (own_after vs3 (.int (0 : Int32)) zn (own_after vs3 (.int (0 : Int32)) zn (own_after vs3 (.int (0 : Int32)) zn (0 : Int32))))), .val (.long ((zn - (own_after vs3 (.int (0 : Int32)) zn (own_after vs3 (.int (0 : Int32)) zn (own_after vs3 (.int (0 : Int32)) zn (0 : Int32))))).toInt64)), .second] [(.int (lcmpW ((zn - (own_after vs3 (.int (0 : Int32)) zn (own_after vs3 (.int (0 : Int32)) zn (own_after vs3 (.int (0 : Int32)) zn (0 : Int32))))).toInt64) ((zn - (own_after vs3 (.int (0 : Int32)) zn (own_after vs3 (.int (0 : Int32)) zn (own_after vs3 (.int (0 : Int32)) zn (0 : Int32))))).toInt64)))])) _
        refine XS.ifNo X49.here hx rfl (hb hby at_226) rfl ((if0 _ _).trans (teq (own_lc _ : (lcmpW ((zn - (own_after vs3 (.int (0 : Int32)) zn (own_after vs3 (.int (0 : Int32)) zn (own_after vs3 (.int (0 : Int32)) zn (0 : Int32))))).toInt64) ((zn - (own_after vs3 (.int (0 : Int32)) zn (own_after vs3 (.int (0 : Int32)) zn (own_after vs3 (.int (0 : Int32)) zn (0 : Int32))))).toInt64)) = (0 : Int32))).2) ?_
        show Steps p.tables e below (T49.setTop (mkF m 229 #[.val (.int p0), .val (.int p1), .val (.int p2), .val (.int zn), .val (.ref ar3), .val (.ref b5), .val (.long ((zn - (0 : Int32)).toInt64)), .second, .val (.ref x33), .val (.int (own_after vs3 (.int (0 : Int32)) zn (0 : Int32))), .val (.long ((zn - (own_after vs3 (.int (0 : Int32)) zn (0 : Int32))).toInt64)), .second, .val .null, .val (.int (own_after vs3 (.int (0 : Int32)) zn (own_after vs3 (.int (0 : Int32)) zn (0 : Int32)))), .val (.long ((zn - (own_after vs3 (.int (0 : Int32)) zn (own_after vs3 (.int (0 : Int32)) zn (0 : Int32)))).toInt64)), .second, .val .null, .val (.int (own_after vs3 (.int (0 : Int32)) zn (own_after vs3 (.int (0 : Int32)) zn (own_after vs3 (.int (0 : Int32)) zn (0 : Int32))))), .val (.long ((zn - (own_after vs3 (.int (0 : Int32)) zn (own_after vs3 (.int (0 : Int32)) zn (own_after vs3 (.int (0 : Int32)) zn (0 : Int32))))).toInt64)), .second] [])) _
        refine XS.iconst X49.here hx rfl (hb hby at_229) ?_
        show Steps p.tables e below (T49.setTop (mkF m 230 #[.val (.int p0), .val (.int p1), .val (.int p2), .val (.int zn), .val (.ref ar3), .val (.ref b5), .val (.long ((zn - (0 : Int32)).toInt64)), .second, .val (.ref x33), .val (.int (own_after vs3 (.int (0 : Int32)) zn (0 : Int32))), .val (.long ((zn - (own_after vs3 (.int (0 : Int32)) zn (0 : Int32))).toInt64)), .second, .val .null, .val (.int (own_after vs3 (.int (0 : Int32)) zn (own_after vs3 (.int (0 : Int32)) zn (0 : Int32)))), .val (.long ((zn - (own_after vs3 (.int (0 : Int32)) zn (own_after vs3 (.int (0 : Int32)) zn (0 : Int32)))).toInt64)), .second, .val .null, .val (.int (own_after vs3 (.int (0 : Int32)) zn (own_after vs3 (.int (0 : Int32)) zn (own_after vs3 (.int (0 : Int32)) zn (0 : Int32))))), .val (.long ((zn - (own_after vs3 (.int (0 : Int32)) zn (own_after vs3 (.int (0 : Int32)) zn (own_after vs3 (.int (0 : Int32)) zn (0 : Int32))))).toInt64)), .second] [(.int (1 : Int32))])) _
        refine XS.goto X49.here hx rfl (pc0 := 230) (pc' := 234) rfl (hb hby at_230) (by decide) (by decide) ?_
        exact k
      obtain ⟨fs, hrq, hrun, hended, hW, hsame⟩ := X49.leave (v := some (.int (1 : Int32))) (fun h => by rw [Bd.returns] at h; cases h)
      refine ⟨_, _, pre50 _ ?_, hrun, hended, _, _, rfl, ?_, ⟨_, rfl⟩, hW, hsame.mono (by decide) (by decide)⟩
      · show Steps p.tables e below (T49.setTop (mkF m 234 #[.val (.int p0), .val (.int p1), .val (.int p2), .val (.int zn), .val (.ref ar3), .val (.ref b5), .val (.long ((zn - (0 : Int32)).toInt64)), .second, .val (.ref x33), .val (.int (own_after vs3 (.int (0 : Int32)) zn (0 : Int32))), .val (.long ((zn - (own_after vs3 (.int (0 : Int32)) zn (0 : Int32))).toInt64)), .second, .val .null, .val (.int (own_after vs3 (.int (0 : Int32)) zn (own_after vs3 (.int (0 : Int32)) zn (0 : Int32)))), .val (.long ((zn - (own_after vs3 (.int (0 : Int32)) zn (own_after vs3 (.int (0 : Int32)) zn (0 : Int32)))).toInt64)), .second, .val .null, .val (.int (own_after vs3 (.int (0 : Int32)) zn (own_after vs3 (.int (0 : Int32)) zn (own_after vs3 (.int (0 : Int32)) zn (0 : Int32))))), .val (.long ((zn - (own_after vs3 (.int (0 : Int32)) zn (own_after vs3 (.int (0 : Int32)) zn (own_after vs3 (.int (0 : Int32)) zn (0 : Int32))))).toInt64)), .second] [(.int (1 : Int32))])) _
        exact retN X49 hx (t := .boolean) Bd.returns (by simp) (hb hby at_234) hrq
      · show Q0 Z p0 p1 p2 ln kl h0 n0 _ T49.heap _
        rw [e49]
        exact ⟨rfl, N49⟩
    · have hbb51 := own_lt3 hzb hB33 hs_39
      have hle51 : l233 = ln := hl33 (own_ltz hbb51)
      rw [hle51] at rd33
      have rdl51 := rd33
      have c52 : Arv Z T33.heap ln kl .byte (0 : Int32) [] (.int (0 : Int32)) := (c12.keep Kq33 (ninS (Ne.symm ne_rl) nin0))
      obtain ⟨cq53, kq53, q53a, q53b, q53c⟩ := isOf hZ e37 E_b5_33
      obtain ⟨_, _, ⟨T53, L53, k53, n53⟩, -, X53, ⟨Lc53, hQ53, l53, y53, z53⟩, st53⟩ := X37.virtualBack hx (y := (⟨"quorumkeep/store/Messages$Reader", "next", "()[B"⟩ : MethodName)) (z := (⟨"quorumkeep/store/Messages$Reader", "next", "()[B"⟩ : MethodName)) hown (mvT hZ (hw _ (List.mem_of_getElem? (i := 38) rfl))) (mvT hZ (hw _ (List.mem_of_getElem? (i := 39) rfl))) (notFace_of_selects (args := #[]) (mvT hZ (hw _ (List.mem_of_getElem? (i := 41) rfl)))) (mvT hZ (hw _ (List.mem_of_getElem? (i := 41) rfl))) (mvT hZ (hw _ (List.mem_of_getElem? (i := 40) rfl))) (by decide) (backOf (W := 0) (rmnextY l Z a0 hw [] b5 ar3 kk3 zn vs3 (.int (0 : Int32)) ln kl (own_after vs3 (.int (0 : Int32)) zn (0 : Int32)) T33.heap n0 Z34 rdl51 c52 c35 hbb51 g_b5) hZ (hw _ (List.mem_of_getElem? (i := 42) rfl)) (hw _ (List.mem_of_getElem? (i := 8) rfl)) (by decide) (by decide)) q53a q53c (g := (mkF m 107 #[.val (.int p0), .val (.int p1), .val (.int p2), .val (.int zn), .val (.ref ar3), .val (.ref b5), .val (.long ((zn - (0 : Int32)).toInt64)), .second, .val (.ref x33), .val (.int (own_after vs3 (.int (0 : Int32)) zn (0 : Int32))), .val (.long ((zn - (own_after vs3 (.int (0 : Int32)) zn (0 : Int32))).toInt64)), .second, .unset, .unset, .unset, .unset, .unset, .unset, .unset, .unset] [(.ref b5)])) rfl (by rw [hml]; rfl) (Steps.refl _) (argsL := []) (rest := []) (lenOf pd_12 rfl) rfl (by show 2 * 0 + _ ≤ _; exact Nat.le_of_eq rfl) (hb hby at_107) (fun _ _ => ⟨rfl, e37, (by decide : 4 + 2 ≤ _), (by decide : 24 + 8 ≤ _)⟩)
      dsimp only [Pt.U, Pt.locs, Pt.cells, Pt.slots] at X53 l53 y53 z53 st53 hQ53
      subst l53 y53 z53
      obtain ⟨x53, rfl, Nq53, Kq53, l253, rd53, hl53⟩ := hQ53
      have N53 := Fr.app N37 Nq53
      have Z54 : n0 ≤ T53.heap.size := Nat.le_trans Z34 Kq53.1
      have hB53 := own_ab hzb hB33 vs3 (.int (0 : Int32))
      have rdc_53 := rd53
      obtain ⟨E_b5_53, F_line_53, F_length_53, F_budget_53, F_buffer_53, F_end_53, F_read_53, F_start_53, F_held_53, F_atEnd_53, ⟨u_size_53, F_size_53⟩, ⟨u_keep_53, F_keepable_53⟩⟩ := rdc_53
      have c55 : Arv Z T53.heap ar3 kk3 .byte zn vs3 (.int (0 : Int32)) := (c35.keep Kq53 (ninS (Ne.symm ne_ra) nin0))
      obtain ⟨_, _, ⟨T56, L56, k56, n56⟩, -, X56, ⟨Lc56, hQ56, l56, y56, z56⟩, st56⟩ := Jvm.LawKit.callS X53 hx (y := (⟨"quorumkeep/store/ReaderMostMessagesLeftPinLaw", "after", "([BI)I"⟩ : MethodName)) hown (mvT hZ (hw _ (List.mem_of_getElem? (i := 69) rfl))) (mvT hZ (hw _ (List.mem_of_getElem? (i := 70) rfl))) (mvT hZ (hw _ (List.mem_of_getElem? (i := 3) rfl))) (mvT hZ (hw _ (List.mem_of_getElem? (i := 71) rfl))) (by decide) (backOf (W := 0) (rmafter l Z a0 hw [] ar3 (own_after vs3 (.int (0 : Int32)) zn (0 : Int32)) kk3 zn vs3 (.int (0 : Int32)) T53.heap n0 Z54 c55) hZ (hw _ (List.mem_of_getElem? (i := 71) rfl)) (hw _ (List.mem_of_getElem? (i := 3) rfl)) (by decide) (by decide)) (g := (mkF m 143 #[.val (.int p0), .val (.int p1), .val (.int p2), .val (.int zn), .val (.ref ar3), .val (.ref b5), .val (.long ((zn - (0 : Int32)).toInt64)), .second, .val (.ref x33), .val (.int (own_after vs3 (.int (0 : Int32)) zn (0 : Int32))), .val (.long ((zn - (own_after vs3 (.int (0 : Int32)) zn (0 : Int32))).toInt64)), .second, .val (.ref x53), .unset, .unset, .unset, .unset, .unset, .unset, .unset] [(.int (own_after vs3 (.int (0 : Int32)) zn (0 : Int32))), (.ref ar3)])) rfl (by rw [hml]; rfl) (argsL := [(.ref ar3), (.int (own_after vs3 (.int (0 : Int32)) zn (0 : Int32)))]) (rest := []) (lenOf pd_13 rfl) rfl (by show 2 * 0 + _ ≤ _; exact Nat.le_of_eq rfl) (hb hby at_143) (fun _ _ => ⟨rfl, rfl, (by decide : 6 + 0 ≤ _), (by decide : 32 + 0 ≤ _)⟩)
      dsimp only [Pt.U, Pt.locs, Pt.cells, Pt.slots] at X56 l56 y56 z56 st56 hQ56
      subst l56 y56 z56
      obtain ⟨rfl, Nq56, hh56⟩ := hQ56
      have N56 := Fr.app N53 Nq56
      have e56 : T56.heap = T53.heap := hh56
      obtain ⟨cq57, kq57, q57a, q57b, q57c⟩ := isOf hZ e56 E_b5_53
      obtain ⟨_, _, ⟨T57, L57, k57, n57⟩, -, X57, ⟨Lc57, hQ57, l57, y57, z57⟩, st57⟩ := X56.virtualBack hx (y := (⟨"quorumkeep/store/Messages$Reader", "mostMessagesLeft", "()J"⟩ : MethodName)) (z := (⟨"quorumkeep/store/Messages$Reader", "mostMessagesLeft", "()J"⟩ : MethodName)) hown (mvT hZ (hw _ (List.mem_of_getElem? (i := 31) rfl))) (mvT hZ (hw _ (List.mem_of_getElem? (i := 32) rfl))) (notFace_of_selects (args := #[]) (mvT hZ (hw _ (List.mem_of_getElem? (i := 34) rfl)))) (mvT hZ (hw _ (List.mem_of_getElem? (i := 34) rfl))) (mvT hZ (hw _ (List.mem_of_getElem? (i := 33) rfl))) (by decide) (backOf (W := 0) (rmmm l Z a0 hw [] b5 zn (own_after vs3 (.int (0 : Int32)) zn (own_after vs3 (.int (0 : Int32)) zn (0 : Int32))) T53.heap n0 Z54 F_length_53 F_end_53 F_start_53 F_read_53 (own_z0 hz)) hZ (hw _ (List.mem_of_getElem? (i := 35) rfl)) (hw _ (List.mem_of_getElem? (i := 8) rfl)) (by decide) (by decide)) q57a q57c (g := (mkF m 150 #[.val (.int p0), .val (.int p1), .val (.int p2), .val (.int zn), .val (.ref ar3), .val (.ref b5), .val (.long ((zn - (0 : Int32)).toInt64)), .second, .val (.ref x33), .val (.int (own_after vs3 (.int (0 : Int32)) zn (0 : Int32))), .val (.long ((zn - (own_after vs3 (.int (0 : Int32)) zn (0 : Int32))).toInt64)), .second, .val (.ref x53), .val (.int (own_after vs3 (.int (0 : Int32)) zn (own_after vs3 (.int (0 : Int32)) zn (0 : Int32)))), .unset, .unset, .unset, .unset, .unset, .unset] [(.ref b5)])) rfl (by rw [hml]; rfl) (Steps.refl _) (argsL := []) (rest := []) (lenOf pd_11 rfl) rfl (by show 2 * 0 + _ ≤ _; exact Nat.le_of_eq rfl) (hb hby at_150) (fun _ _ => ⟨rfl, e56, (by decide : 6 + 0 ≤ _), (by decide : 32 + 0 ≤ _)⟩)
      dsimp only [Pt.U, Pt.locs, Pt.cells, Pt.slots] at X57 l57 y57 z57 st57 hQ57
      subst l57 y57 z57
      obtain ⟨rfl, Nq57, hh57⟩ := hQ57
      have N57 := Fr.app N56 Nq57
      have e57 : T57.heap = T53.heap := hh57
      have pre58 : ∀ t, Steps p.tables e below (T57.setTop (mkF m 168 #[.val (.int p0), .val (.int p1), .val (.int p2), .val (.int zn), .val (.ref ar3), .val (.ref b5), .val (.long ((zn - (0 : Int32)).toInt64)), .second, .val (.ref x33), .val (.int (own_after vs3 (.int (0 : Int32)) zn (0 : Int32))), .val (.long ((zn - (own_after vs3 (.int (0 : Int32)) zn (0 : Int32))).toInt64)), .second, .val (.ref x53), .val (.int (own_after vs3 (.int (0 : Int32)) zn (own_after vs3 (.int (0 : Int32)) zn (0 : Int32)))), .val (.long ((zn - (own_after vs3 (.int (0 : Int32)) zn (own_after vs3 (.int (0 : Int32)) zn (0 : Int32)))).toInt64)), .second, .unset, .unset, .unset, .unset] [])) t → Steps p.tables e below (s₁.setTop (entryFrame m #[(.int p0), (.int p1), (.int p2)] maxLocals)) t := fun t k => by
        refine pre38 t ?_
        show Steps p.tables e below (T37.setTop (mkF m 105 #[.val (.int p0), .val (.int p1), .val (.int p2), .val (.int zn), .val (.ref ar3), .val (.ref b5), .val (.long ((zn - (0 : Int32)).toInt64)), .second, .val (.ref x33), .val (.int (own_after vs3 (.int (0 : Int32)) zn (0 : Int32))), .val (.long ((zn - (own_after vs3 (.int (0 : Int32)) zn (0 : Int32))).toInt64)), .second, .unset, .unset, .unset, .unset, .unset, .unset, .unset, .unset] [])) _
        refine XS.aload X37.here hx rfl (hb hby at_105) rfl rfl ?_
        show Steps p.tables e below (T37.setTop (mkF m 107 #[.val (.int p0), .val (.int p1), .val (.int p2), .val (.int zn), .val (.ref ar3), .val (.ref b5), .val (.long ((zn - (0 : Int32)).toInt64)), .second, .val (.ref x33), .val (.int (own_after vs3 (.int (0 : Int32)) zn (0 : Int32))), .val (.long ((zn - (own_after vs3 (.int (0 : Int32)) zn (0 : Int32))).toInt64)), .second, .unset, .unset, .unset, .unset, .unset, .unset, .unset, .unset] [(.ref b5)])) _
        refine st53.trans ?_
        show Steps p.tables e below (T53.setTop (mkF m 110 #[.val (.int p0), .val (.int p1), .val (.int p2), .val (.int zn), .val (.ref ar3), .val (.ref b5), .val (.long ((zn - (0 : Int32)).toInt64)), .second, .val (.ref x33), .val (.int (own_after vs3 (.int (0 : Int32)) zn (0 : Int32))), .val (.long ((zn - (own_after vs3 (.int (0 : Int32)) zn (0 : Int32))).toInt64)), .second, .unset, .unset, .unset, .unset, .unset, .unset, .unset, .unset] [(.ref x53)])) _
        refine XS.astore X53.here hx rfl (hb hby at_110) rfl rfl (l' := #[.val (.int p0), .val (.int p1), .val (.int p2), .val (.int zn), .val (.ref ar3), .val (.ref b5), .val (.long ((zn - (0 : Int32)).toInt64)), .second, .val (.ref x33), .val (.int (own_after vs3 (.int (0 : Int32)) zn (0 : Int32))), .val (.long ((zn - (own_after vs3 (.int (0 : Int32)) zn (0 : Int32))).toInt64)), .second, .val (.ref x53), .unset, .unset, .unset, .unset, .unset, .unset, .unset]) rfl ?_
        show Steps p.tables e below (T53.setTop (mkF m 112 #[.val (.int p0), .val (.int p1), .val (.int p2), .val (.int zn), .val (.ref ar3), .val (.ref b5), .val (.long ((zn - (0 : Int32)).toInt64)), .second, .val (.ref x33), .val (.int (own_after vs3 (.int (0 : Int32)) zn (0 : Int32))), .val (.long ((zn - (own_after vs3 (.int (0 : Int32)) zn (0 : Int32))).toInt64)), .second, .val (.ref x53), .unset, .unset, .unset, .unset, .unset, .unset, .unset] [])) _
        refine XS.aload X53.here hx rfl (hb hby at_112) rfl rfl ?_
        show Steps p.tables e below (T53.setTop (mkF m 114 #[.val (.int p0), .val (.int p1), .val (.int p2), .val (.int zn), .val (.ref ar3), .val (.ref b5), .val (.long ((zn - (0 : Int32)).toInt64)), .second, .val (.ref x33), .val (.int (own_after vs3 (.int (0 : Int32)) zn (0 : Int32))), .val (.long ((zn - (own_after vs3 (.int (0 : Int32)) zn (0 : Int32))).toInt64)), .second, .val (.ref x53), .unset, .unset, .unset, .unset, .unset, .unset, .unset] [(.ref x53)])) _
        refine XS.ifnonnullYes X53.here hx rfl (pc0 := 114) (pc' := 121) rfl (hb hby at_114) rfl (by decide) (by decide) ?_
        show Steps p.tables e below (T53.setTop (mkF m 121 #[.val (.int p0), .val (.int p1), .val (.int p2), .val (.int zn), .val (.ref ar3), .val (.ref b5), .val (.long ((zn - (0 : Int32)).toInt64)), .second, .val (.ref x33), .val (.int (own_after vs3 (.int (0 : Int32)) zn (0 : Int32))), .val (.long ((zn - (own_after vs3 (.int (0 : Int32)) zn (0 : Int32))).toInt64)), .second, .val (.ref x53), .unset, .unset, .unset, .unset, .unset, .unset, .unset] [])) _
        refine XS.iconst X53.here hx rfl (hb hby at_121) ?_
        show Steps p.tables e below (T53.setTop (mkF m 122 #[.val (.int p0), .val (.int p1), .val (.int p2), .val (.int zn), .val (.ref ar3), .val (.ref b5), .val (.long ((zn - (0 : Int32)).toInt64)), .second, .val (.ref x33), .val (.int (own_after vs3 (.int (0 : Int32)) zn (0 : Int32))), .val (.long ((zn - (own_after vs3 (.int (0 : Int32)) zn (0 : Int32))).toInt64)), .second, .val (.ref x53), .unset, .unset, .unset, .unset, .unset, .unset, .unset] [(.int (0 : Int32))])) _
        refine XS.lload X53.here hx rfl (hb hby at_122) rfl ?_
        show Steps p.tables e below (T53.setTop (mkF m 124 #[.val (.int p0), .val (.int p1), .val (.int p2), .val (.int zn), .val (.ref ar3), .val (.ref b5), .val (.long ((zn - (0 : Int32)).toInt64)), .second, .val (.ref x33), .val (.int (own_after vs3 (.int (0 : Int32)) zn (0 : Int32))), .val (.long ((zn - (own_after vs3 (.int (0 : Int32)) zn (0 : Int32))).toInt64)), .second, .val (.ref x53), .unset, .unset, .unset, .unset, .unset, .unset, .unset] [(.long ((zn - (own_after vs3 (.int (0 : Int32)) zn (0 : Int32))).toInt64)), (.int (0 : Int32))])) _
        refine XS.lconst X53.here hx rfl (hb hby at_124) ?_
        show Steps p.tables e below (T53.setTop (mkF m 125 #[.val (.int p0), .val (.int p1), .val (.int p2), .val (.int zn), .val (.ref ar3), .val (.ref b5), .val (.long ((zn - (0 : Int32)).toInt64)), .second, .val (.ref x33), .val (.int (own_after vs3 (.int (0 : Int32)) zn (0 : Int32))), .val (.long ((zn - (own_after vs3 (.int (0 : Int32)) zn (0 : Int32))).toInt64)), .second, .val (.ref x53), .unset, .unset, .unset, .unset, .unset, .unset, .unset] [(.long (0 : Int64)), (.long ((zn - (own_after vs3 (.int (0 : Int32)) zn (0 : Int32))).toInt64)), (.int (0 : Int32))])) _
        refine XS.lcmp X53.here hx rfl (hb hby at_125) rfl ?_
        show Steps p.tables e below (T53.setTop (mkF m 126 #[.val (.int p0), .val (.int p1), .val (.int p2), .val (.int zn), .val (.ref ar3), .val (.ref b5), .val (.long ((zn - (0 : Int32)).toInt64)), .second, .val (.ref x33), .val (.int (own_after vs3 (.int (0 : Int32)) zn (0 : Int32))), .val (.long ((zn - (own_after vs3 (.int (0 : Int32)) zn (0 : Int32))).toInt64)), .second, .val (.ref x53), .unset, .unset, .unset, .unset, .unset, .unset, .unset] [(.int (lcmpW ((zn - (own_after vs3 (.int (0 : Int32)) zn (0 : Int32))).toInt64) (0 : Int64))), (.int (0 : Int32))])) _
        refine XS.ifYes X53.here hx rfl (pc0 := 126) (pc' := 133) rfl (hb hby at_126) rfl ((if0 _ _).trans (feq (own_lnz (own_nez hbb51) : ¬ ((lcmpW ((zn - (own_after vs3 (.int (0 : Int32)) zn (0 : Int32))).toInt64) (0 : Int64)) = (0 : Int32)))).2) (by decide) (by decide) ?_
        show Steps p.tables e below (T53.setTop (mkF m 133 #[.val (.int p0), .val (.int p1), .val (.int p2), .val (.int zn), .val (.ref ar3), .val (.ref b5), .val (.long ((zn - (0 : Int32)).toInt64)), .second, .val (.ref x33), .val (.int (own_after vs3 (.int (0 : Int32)) zn (0 : Int32))), .val (.long ((zn - (own_after vs3 (.int (0 : Int32)) zn (0 : Int32))).toInt64)), .second, .val (.ref x53), .unset, .unset, .unset, .unset, .unset, .unset, .unset] [(.int (0 : Int32))])) _
        refine XS.iconst X53.here hx rfl (hb hby at_133) ?_
        show Steps p.tables e below (T53.setTop (mkF m 134 #[.val (.int p0), .val (.int p1), .val (.int p2), .val (.int zn), .val (.ref ar3), .val (.ref b5), .val (.long ((zn - (0 : Int32)).toInt64)), .second, .val (.ref x33), .val (.int (own_after vs3 (.int (0 : Int32)) zn (0 : Int32))), .val (.long ((zn - (own_after vs3 (.int (0 : Int32)) zn (0 : Int32))).toInt64)), .second, .val (.ref x53), .unset, .unset, .unset, .unset, .unset, .unset, .unset] [(.int (0 : Int32)), (.int (0 : Int32))])) _
        refine XS.icmpYes X53.here hx rfl (pc0 := 134) (pc' := 139) rfl (hb hby at_134) rfl (teq (by decide : (0 : Int32) = (0 : Int32))).1 (by decide) (by decide) ?_
        show Steps p.tables e below (T53.setTop (mkF m 139 #[.val (.int p0), .val (.int p1), .val (.int p2), .val (.int zn), .val (.ref ar3), .val (.ref b5), .val (.long ((zn - (0 : Int32)).toInt64)), .second, .val (.ref x33), .val (.int (own_after vs3 (.int (0 : Int32)) zn (0 : Int32))), .val (.long ((zn - (own_after vs3 (.int (0 : Int32)) zn (0 : Int32))).toInt64)), .second, .val (.ref x53), .unset, .unset, .unset, .unset, .unset, .unset, .unset] [])) _
        refine XS.aload X53.here hx rfl (hb hby at_139) rfl rfl ?_
        show Steps p.tables e below (T53.setTop (mkF m 141 #[.val (.int p0), .val (.int p1), .val (.int p2), .val (.int zn), .val (.ref ar3), .val (.ref b5), .val (.long ((zn - (0 : Int32)).toInt64)), .second, .val (.ref x33), .val (.int (own_after vs3 (.int (0 : Int32)) zn (0 : Int32))), .val (.long ((zn - (own_after vs3 (.int (0 : Int32)) zn (0 : Int32))).toInt64)), .second, .val (.ref x53), .unset, .unset, .unset, .unset, .unset, .unset, .unset] [(.ref ar3)])) _
        refine XS.iload X53.here hx rfl (hb hby at_141) rfl ?_
        show Steps p.tables e below (T53.setTop (mkF m 143 #[.val (.int p0), .val (.int p1), .val (.int p2), .val (.int zn), .val (.ref ar3), .val (.ref b5), .val (.long ((zn - (0 : Int32)).toInt64)), .second, .val (.ref x33), .val (.int (own_after vs3 (.int (0 : Int32)) zn (0 : Int32))), .val (.long ((zn - (own_after vs3 (.int (0 : Int32)) zn (0 : Int32))).toInt64)), .second, .val (.ref x53), .unset, .unset, .unset, .unset, .unset, .unset, .unset] [(.int (own_after vs3 (.int (0 : Int32)) zn (0 : Int32))), (.ref ar3)])) _
        refine st56 _ ?_
        show Steps p.tables e below (T56.setTop (mkF m 146 #[.val (.int p0), .val (.int p1), .val (.int p2), .val (.int zn), .val (.ref ar3), .val (.ref b5), .val (.long ((zn - (0 : Int32)).toInt64)), .second, .val (.ref x33), .val (.int (own_after vs3 (.int (0 : Int32)) zn (0 : Int32))), .val (.long ((zn - (own_after vs3 (.int (0 : Int32)) zn (0 : Int32))).toInt64)), .second, .val (.ref x53), .unset, .unset, .unset, .unset, .unset, .unset, .unset] [(.int (own_after vs3 (.int (0 : Int32)) zn (own_after vs3 (.int (0 : Int32)) zn (0 : Int32))))])) _
        refine XS.istore X56.here hx rfl (hb hby at_146) rfl (l' := #[.val (.int p0), .val (.int p1), .val (.int p2), .val (.int zn), .val (.ref ar3), .val (.ref b5), .val (.long ((zn - (0 : Int32)).toInt64)), .second, .val (.ref x33), .val (.int (own_after vs3 (.int (0 : Int32)) zn (0 : Int32))), .val (.long ((zn - (own_after vs3 (.int (0 : Int32)) zn (0 : Int32))).toInt64)), .second, .val (.ref x53), .val (.int (own_after vs3 (.int (0 : Int32)) zn (own_after vs3 (.int (0 : Int32)) zn (0 : Int32)))), .unset, .unset, .unset, .unset, .unset, .unset]) rfl ?_
        show Steps p.tables e below (T56.setTop (mkF m 148 #[.val (.int p0), .val (.int p1), .val (.int p2), .val (.int zn), .val (.ref ar3), .val (.ref b5), .val (.long ((zn - (0 : Int32)).toInt64)), .second, .val (.ref x33), .val (.int (own_after vs3 (.int (0 : Int32)) zn (0 : Int32))), .val (.long ((zn - (own_after vs3 (.int (0 : Int32)) zn (0 : Int32))).toInt64)), .second, .val (.ref x53), .val (.int (own_after vs3 (.int (0 : Int32)) zn (own_after vs3 (.int (0 : Int32)) zn (0 : Int32)))), .unset, .unset, .unset, .unset, .unset, .unset] [])) _
        refine XS.aload X56.here hx rfl (hb hby at_148) rfl rfl ?_
        show Steps p.tables e below (T56.setTop (mkF m 150 #[.val (.int p0), .val (.int p1), .val (.int p2), .val (.int zn), .val (.ref ar3), .val (.ref b5), .val (.long ((zn - (0 : Int32)).toInt64)), .second, .val (.ref x33), .val (.int (own_after vs3 (.int (0 : Int32)) zn (0 : Int32))), .val (.long ((zn - (own_after vs3 (.int (0 : Int32)) zn (0 : Int32))).toInt64)), .second, .val (.ref x53), .val (.int (own_after vs3 (.int (0 : Int32)) zn (own_after vs3 (.int (0 : Int32)) zn (0 : Int32)))), .unset, .unset, .unset, .unset, .unset, .unset] [(.ref b5)])) _
        refine st57.trans ?_
        show Steps p.tables e below (T57.setTop (mkF m 153 #[.val (.int p0), .val (.int p1), .val (.int p2), .val (.int zn), .val (.ref ar3), .val (.ref b5), .val (.long ((zn - (0 : Int32)).toInt64)), .second, .val (.ref x33), .val (.int (own_after vs3 (.int (0 : Int32)) zn (0 : Int32))), .val (.long ((zn - (own_after vs3 (.int (0 : Int32)) zn (0 : Int32))).toInt64)), .second, .val (.ref x53), .val (.int (own_after vs3 (.int (0 : Int32)) zn (own_after vs3 (.int (0 : Int32)) zn (0 : Int32)))), .unset, .unset, .unset, .unset, .unset, .unset] [(.long ((zn - (own_after vs3 (.int (0 : Int32)) zn (own_after vs3 (.int (0 : Int32)) zn (0 : Int32)))).toInt64))])) _
        refine XS.lstore X57.here hx rfl (hb hby at_153) rfl (l' := #[.val (.int p0), .val (.int p1), .val (.int p2), .val (.int zn), .val (.ref ar3), .val (.ref b5), .val (.long ((zn - (0 : Int32)).toInt64)), .second, .val (.ref x33), .val (.int (own_after vs3 (.int (0 : Int32)) zn (0 : Int32))), .val (.long ((zn - (own_after vs3 (.int (0 : Int32)) zn (0 : Int32))).toInt64)), .second, .val (.ref x53), .val (.int (own_after vs3 (.int (0 : Int32)) zn (own_after vs3 (.int (0 : Int32)) zn (0 : Int32)))), .val (.long ((zn - (own_after vs3 (.int (0 : Int32)) zn (own_after vs3 (.int (0 : Int32)) zn (0 : Int32)))).toInt64)), .second, .unset, .unset, .unset, .unset]) rfl ?_
        show Steps p.tables e below (T57.setTop (mkF m 155 #[.val (.int p0), .val (.int p1), .val (.int p2), .val (.int zn), .val (.ref ar3), .val (.ref b5), .val (.long ((zn - (0 : Int32)).toInt64)), .second, .val (.ref x33), .val (.int (own_after vs3 (.int (0 : Int32)) zn (0 : Int32))), .val (.long ((zn - (own_after vs3 (.int (0 : Int32)) zn (0 : Int32))).toInt64)), .second, .val (.ref x53), .val (.int (own_after vs3 (.int (0 : Int32)) zn (own_after vs3 (.int (0 : Int32)) zn (0 : Int32)))), .val (.long ((zn - (own_after vs3 (.int (0 : Int32)) zn (own_after vs3 (.int (0 : Int32)) zn (0 : Int32)))).toInt64)), .second, .unset, .unset, .unset, .unset] [])) _
        refine XS.lload X57.here hx rfl (hb hby at_155) rfl ?_
        show Steps p.tables e below (T57.setTop (mkF m 157 #[.val (.int p0), .val (.int p1), .val (.int p2), .val (.int zn), .val (.ref ar3), .val (.ref b5), .val (.long ((zn - (0 : Int32)).toInt64)), .second, .val (.ref x33), .val (.int (own_after vs3 (.int (0 : Int32)) zn (0 : Int32))), .val (.long ((zn - (own_after vs3 (.int (0 : Int32)) zn (0 : Int32))).toInt64)), .second, .val (.ref x53), .val (.int (own_after vs3 (.int (0 : Int32)) zn (own_after vs3 (.int (0 : Int32)) zn (0 : Int32)))), .val (.long ((zn - (own_after vs3 (.int (0 : Int32)) zn (own_after vs3 (.int (0 : Int32)) zn (0 : Int32)))).toInt64)), .second, .unset, .unset, .unset, .unset] [(.long ((zn - (own_after vs3 (.int (0 : Int32)) zn (own_after vs3 (.int (0 : Int32)) zn (0 : Int32)))).toInt64))])) _
        refine XS.iloadN X57.here hx rfl (hb hby at_157) rfl ?_
        show Steps p.tables e below (T57.setTop (mkF m 158 #[.val (.int p0), .val (.int p1), .val (.int p2), .val (.int zn), .val (.ref ar3), .val (.ref b5), .val (.long ((zn - (0 : Int32)).toInt64)), .second, .val (.ref x33), .val (.int (own_after vs3 (.int (0 : Int32)) zn (0 : Int32))), .val (.long ((zn - (own_after vs3 (.int (0 : Int32)) zn (0 : Int32))).toInt64)), .second, .val (.ref x53), .val (.int (own_after vs3 (.int (0 : Int32)) zn (own_after vs3 (.int (0 : Int32)) zn (0 : Int32)))), .val (.long ((zn - (own_after vs3 (.int (0 : Int32)) zn (own_after vs3 (.int (0 : Int32)) zn (0 : Int32)))).toInt64)), .second, .unset, .unset, .unset, .unset] [(.int zn), (.long ((zn - (own_after vs3 (.int (0 : Int32)) zn (own_after vs3 (.int (0 : Int32)) zn (0 : Int32)))).toInt64))])) _
        refine XS.iload X57.here hx rfl (hb hby at_158) rfl ?_
        show Steps p.tables e below (T57.setTop (mkF m 160 #[.val (.int p0), .val (.int p1), .val (.int p2), .val (.int zn), .val (.ref ar3), .val (.ref b5), .val (.long ((zn - (0 : Int32)).toInt64)), .second, .val (.ref x33), .val (.int (own_after vs3 (.int (0 : Int32)) zn (0 : Int32))), .val (.long ((zn - (own_after vs3 (.int (0 : Int32)) zn (0 : Int32))).toInt64)), .second, .val (.ref x53), .val (.int (own_after vs3 (.int (0 : Int32)) zn (own_after vs3 (.int (0 : Int32)) zn (0 : Int32)))), .val (.long ((zn - (own_after vs3 (.int (0 : Int32)) zn (own_after vs3 (.int (0 : Int32)) zn (0 : Int32)))).toInt64)), .second, .unset, .unset, .unset, .unset] [(.int (own_after vs3 (.int (0 : Int32)) zn (own_after vs3 (.int (0 : Int32)) zn (0 : Int32)))), (.int zn), (.long ((zn - (own_after vs3 (.int (0 : Int32)) zn (own_after vs3 (.int (0 : Int32)) zn (0 : Int32)))).toInt64))])) _
        refine XS.isub X57.here hx rfl (hb hby at_160) rfl ?_
        show Steps p.tables e below (T57.setTop (mkF m 161 #[.val (.int p0), .val (.int p1), .val (.int p2), .val (.int zn), .val (.ref ar3), .val (.ref b5), .val (.long ((zn - (0 : Int32)).toInt64)), .second, .val (.ref x33), .val (.int (own_after vs3 (.int (0 : Int32)) zn (0 : Int32))), .val (.long ((zn - (own_after vs3 (.int (0 : Int32)) zn (0 : Int32))).toInt64)), .second, .val (.ref x53), .val (.int (own_after vs3 (.int (0 : Int32)) zn (own_after vs3 (.int (0 : Int32)) zn (0 : Int32)))), .val (.long ((zn - (own_after vs3 (.int (0 : Int32)) zn (own_after vs3 (.int (0 : Int32)) zn (0 : Int32)))).toInt64)), .second, .unset, .unset, .unset, .unset] [(.int (zn - (own_after vs3 (.int (0 : Int32)) zn (own_after vs3 (.int (0 : Int32)) zn (0 : Int32))))), (.long ((zn - (own_after vs3 (.int (0 : Int32)) zn (own_after vs3 (.int (0 : Int32)) zn (0 : Int32)))).toInt64))])) _
        refine XS.i2l X57.here hx rfl (hb hby at_161) rfl ?_
        show Steps p.tables e below (T57.setTop (mkF m 162 #[.val (.int p0), .val (.int p1), .val (.int p2), .val (.int zn), .val (.ref ar3), .val (.ref b5), .val (.long ((zn - (0 : Int32)).toInt64)), .second, .val (.ref x33), .val (.int (own_after vs3 (.int (0 : Int32)) zn (0 : Int32))), .val (.long ((zn - (own_after vs3 (.int (0 : Int32)) zn (0 : Int32))).toInt64)), .second, .val (.ref x53), .val (.int (own_after vs3 (.int (0 : Int32)) zn (own_after vs3 (.int (0 : Int32)) zn (0 : Int32)))), .val (.long ((zn - (own_after vs3 (.int (0 : Int32)) zn (own_after vs3 (.int (0 : Int32)) zn (0 : Int32)))).toInt64)), .second, .unset, .unset, .unset, .unset] [(.long ((zn - (own_after vs3 (.int (0 : Int32)) zn (own_after vs3 (.int (0 : Int32)) zn (0 : Int32)))).toInt64)), (.long ((zn - (own_after vs3 (.int (0 : Int32)) zn (own_after vs3 (.int (0 : Int32)) zn (0 : Int32)))).toInt64))])) _
        refine XS.lcmp X57.here hx rfl (hb hby at_162) rfl ?_
        show Steps p.tables e below (T57.setTop (mkF m 163 #[.val (.int p0), .val (.int p1), .val (.int p2), .val (.int zn), .val (.ref ar3), .val (.ref b5), .val (.long ((zn - (0 : Int32)).toInt64)), .second, .val (.ref x33), .val (.int (own_after vs3 (.int (0 : Int32)) zn (0 : Int32))), .val (.long ((zn - (own_after vs3 (.int (0 : Int32)) zn (0 : Int32))).toInt64)), .second, .val (.ref x53), .val (.int (own_after vs3 (.int (0 : Int32)) zn (own_after vs3 (.int (0 : Int32)) zn (0 : Int32)))), .val (.long ((zn - (own_after vs3 (.int (0 : Int32)) zn (own_after vs3 (.int (0 : Int32)) zn (0 : Int32)))).toInt64)), .second, .unset, .unset, .unset, .unset] [(.int (lcmpW ((zn - (own_after vs3 (.int (0 : Int32)) zn (own_after vs3 (.int (0 : Int32)) zn (0 : Int32)))).toInt64) ((zn - (own_after vs3 (.int (0 : Int32)) zn (own_after vs3 (.int (0 : Int32)) zn (0 : Int32)))).toInt64)))])) _
        refine XS.ifYes X57.here hx rfl (pc0 := 163) (pc' := 168) rfl (hb hby at_163) rfl ((if0 _ _).trans (teq (own_lc _ : (lcmpW ((zn - (own_after vs3 (.int (0 : Int32)) zn (own_after vs3 (.int (0 : Int32)) zn (0 : Int32)))).toInt64) ((zn - (own_after vs3 (.int (0 : Int32)) zn (own_after vs3 (.int (0 : Int32)) zn (0 : Int32)))).toInt64)) = (0 : Int32))).1) (by decide) (by decide) ?_
        exact k
      by_cases hs_59 : (own_after vs3 (.int (0 : Int32)) zn (own_after vs3 (.int (0 : Int32)) zn (0 : Int32))) = zn
      · obtain ⟨cq60, kq60, q60a, q60b, q60c⟩ := isOf hZ e57 E_b5_53
        obtain ⟨_, _, ⟨T60, L60, k60, n60⟩, -, X60, ⟨Lc60, hQ60, l60, y60, z60⟩, st60⟩ := X57.virtualBack hx (y := (⟨"quorumkeep/store/Messages$Reader", "next", "()[B"⟩ : MethodName)) (z := (⟨"quorumkeep/store/Messages$Reader", "next", "()[B"⟩ : MethodName)) hown (mvT hZ (hw _ (List.mem_of_getElem? (i := 38) rfl))) (mvT hZ (hw _ (List.mem_of_getElem? (i := 39) rfl))) (notFace_of_selects (args := #[]) (mvT hZ (hw _ (List.mem_of_getElem? (i := 41) rfl)))) (mvT hZ (hw _ (List.mem_of_getElem? (i := 41) rfl))) (mvT hZ (hw _ (List.mem_of_getElem? (i := 40) rfl))) (by decide) (backOf (W := 0) (rmnextN l Z a0 hw [] b5 ar3 zn vs3 (.int (0 : Int32)) l253 (own_after vs3 (.int (0 : Int32)) zn (own_after vs3 (.int (0 : Int32)) zn (0 : Int32))) T53.heap n0 Z54 (own_cast hs_59 rd53) (own_a3 hzb hs_59) g_b5) hZ (hw _ (List.mem_of_getElem? (i := 42) rfl)) (hw _ (List.mem_of_getElem? (i := 8) rfl)) (by decide) (by decide)) q60a q60c (g := (mkF m 170 #[.val (.int p0), .val (.int p1), .val (.int p2), .val (.int zn), .val (.ref ar3), .val (.ref b5), .val (.long ((zn - (0 : Int32)).toInt64)), .second, .val (.ref x33), .val (.int (own_after vs3 (.int (0 : Int32)) zn (0 : Int32))), .val (.long ((zn - (own_after vs3 (.int (0 : Int32)) zn (0 : Int32))).toInt64)), .second, .val (.ref x53), .val (.int (own_after vs3 (.int (0 : Int32)) zn (own_after vs3 (.int (0 : Int32)) zn (0 : Int32)))), .val (.long ((zn - (own_after vs3 (.int (0 : Int32)) zn (own_after vs3 (.int (0 : Int32)) zn (0 : Int32)))).toInt64)), .second, .unset, .unset, .unset, .unset] [(.ref b5)])) rfl (by rw [hml]; rfl) (Steps.refl _) (argsL := []) (rest := []) (lenOf pd_12 rfl) rfl (by show 2 * 0 + _ ≤ _; exact Nat.le_of_eq rfl) (hb hby at_170) (fun _ _ => ⟨rfl, e57, (by decide : 6 + 0 ≤ _), (by decide : 32 + 0 ≤ _)⟩)
        dsimp only [Pt.U, Pt.locs, Pt.cells, Pt.slots] at X60 l60 y60 z60 st60 hQ60
        subst l60 y60 z60
        obtain ⟨rfl, Nq60, Kq60, rd60⟩ := hQ60
        have N60 := Fr.app N57 Nq60
        have Z61 : n0 ≤ T60.heap.size := Nat.le_trans Z54 Kq60.1
        have hs60 : (own_after vs3 (.int (0 : Int32)) zn (own_after vs3 (.int (0 : Int32)) zn (own_after vs3 (.int (0 : Int32)) zn (0 : Int32)))) = zn := own_a3 hzb hs_59
        have rdc_60 := rd60
        obtain ⟨E_b5_60, F_line_60, F_length_60, F_budget_60, F_buffer_60, F_end_60, F_read_60, F_start_60, F_held_60, F_atEnd_60, ⟨u_size_60, F_size_60⟩, ⟨u_keep_60, F_keepable_60⟩⟩ := rdc_60
        have c62 : Arv Z T60.heap ar3 kk3 .byte zn vs3 (.int (0 : Int32)) := (c55.keep Kq60 (ninS (Ne.symm ne_ra) nin0))
        obtain ⟨_, _, ⟨T63, L63, k63, n63⟩, -, X63, ⟨Lc63, hQ63, l63, y63, z63⟩, st63⟩ := Jvm.LawKit.callS X60 hx (y := (⟨"quorumkeep/store/ReaderMostMessagesLeftPinLaw", "after", "([BI)I"⟩ : MethodName)) hown (mvT hZ (hw _ (List.mem_of_getElem? (i := 69) rfl))) (mvT hZ (hw _ (List.mem_of_getElem? (i := 70) rfl))) (mvT hZ (hw _ (List.mem_of_getElem? (i := 3) rfl))) (mvT hZ (hw _ (List.mem_of_getElem? (i := 71) rfl))) (by decide) (backOf (W := 0) (rmafter l Z a0 hw [] ar3 (own_after vs3 (.int (0 : Int32)) zn (own_after vs3 (.int (0 : Int32)) zn (0 : Int32))) kk3 zn vs3 (.int (0 : Int32)) T60.heap n0 Z61 c62) hZ (hw _ (List.mem_of_getElem? (i := 71) rfl)) (hw _ (List.mem_of_getElem? (i := 3) rfl)) (by decide) (by decide)) (g := (mkF m 206 #[.val (.int p0), .val (.int p1), .val (.int p2), .val (.int zn), .val (.ref ar3), .val (.ref b5), .val (.long ((zn - (0 : Int32)).toInt64)), .second, .val (.ref x33), .val (.int (own_after vs3 (.int (0 : Int32)) zn (0 : Int32))), .val (.long ((zn - (own_after vs3 (.int (0 : Int32)) zn (0 : Int32))).toInt64)), .second, .val (.ref x53), .val (.int (own_after vs3 (.int (0 : Int32)) zn (own_after vs3 (.int (0 : Int32)) zn (0 : Int32)))), .val (.long ((zn - (own_after vs3 (.int (0 : Int32)) zn (own_after vs3 (.int (0 : Int32)) zn (0 : Int32)))).toInt64)), .second, .val .null, .unset, .unset, .unset] [(.int (own_after vs3 (.int (0 : Int32)) zn (own_after vs3 (.int (0 : Int32)) zn (0 : Int32)))), (.ref ar3)])) rfl (by rw [hml]; rfl) (argsL := [(.ref ar3), (.int (own_after vs3 (.int (0 : Int32)) zn (own_after vs3 (.int (0 : Int32)) zn (0 : Int32))))]) (rest := []) (lenOf pd_13 rfl) rfl (by show 2 * 0 + _ ≤ _; exact Nat.le_of_eq rfl) (hb hby at_206) (fun _ _ => ⟨rfl, rfl, (by decide : 6 + 0 ≤ _), (by decide : 32 + 0 ≤ _)⟩)
        dsimp only [Pt.U, Pt.locs, Pt.cells, Pt.slots] at X63 l63 y63 z63 st63 hQ63
        subst l63 y63 z63
        obtain ⟨rfl, Nq63, hh63⟩ := hQ63
        have N63 := Fr.app N60 Nq63
        have e63 : T63.heap = T60.heap := hh63
        obtain ⟨cq64, kq64, q64a, q64b, q64c⟩ := isOf hZ e63 E_b5_60
        obtain ⟨_, _, ⟨T64, L64, k64, n64⟩, -, X64, ⟨Lc64, hQ64, l64, y64, z64⟩, st64⟩ := X63.virtualBack hx (y := (⟨"quorumkeep/store/Messages$Reader", "mostMessagesLeft", "()J"⟩ : MethodName)) (z := (⟨"quorumkeep/store/Messages$Reader", "mostMessagesLeft", "()J"⟩ : MethodName)) hown (mvT hZ (hw _ (List.mem_of_getElem? (i := 31) rfl))) (mvT hZ (hw _ (List.mem_of_getElem? (i := 32) rfl))) (notFace_of_selects (args := #[]) (mvT hZ (hw _ (List.mem_of_getElem? (i := 34) rfl)))) (mvT hZ (hw _ (List.mem_of_getElem? (i := 34) rfl))) (mvT hZ (hw _ (List.mem_of_getElem? (i := 33) rfl))) (by decide) (backOf (W := 0) (rmmm l Z a0 hw [] b5 zn (own_after vs3 (.int (0 : Int32)) zn (own_after vs3 (.int (0 : Int32)) zn (own_after vs3 (.int (0 : Int32)) zn (0 : Int32)))) T60.heap n0 Z61 F_length_60 F_end_60 F_start_60 F_read_60 (own_z0 hz)) hZ (hw _ (List.mem_of_getElem? (i := 35) rfl)) (hw _ (List.mem_of_getElem? (i := 8) rfl)) (by decide) (by decide)) q64a q64c (g := (mkF m 213 #[.val (.int p0), .val (.int p1), .val (.int p2), .val (.int zn), .val (.ref ar3), .val (.ref b5), .val (.long ((zn - (0 : Int32)).toInt64)), .second, .val (.ref x33), .val (.int (own_after vs3 (.int (0 : Int32)) zn (0 : Int32))), .val (.long ((zn - (own_after vs3 (.int (0 : Int32)) zn (0 : Int32))).toInt64)), .second, .val (.ref x53), .val (.int (own_after vs3 (.int (0 : Int32)) zn (own_after vs3 (.int (0 : Int32)) zn (0 : Int32)))), .val (.long ((zn - (own_after vs3 (.int (0 : Int32)) zn (own_after vs3 (.int (0 : Int32)) zn (0 : Int32)))).toInt64)), .second, .val .null, .val (.int (own_after vs3 (.int (0 : Int32)) zn (own_after vs3 (.int (0 : Int32)) zn (own_after vs3 (.int (0 : Int32)) zn (0 : Int32))))), .unset, .unset] [(.ref b5)])) rfl (by rw [hml]; rfl) (Steps.refl _) (argsL := []) (rest := []) (lenOf pd_11 rfl) rfl (by show 2 * 0 + _ ≤ _; exact Nat.le_of_eq rfl) (hb hby at_213) (fun _ _ => ⟨rfl, e63, (by decide : 6 + 0 ≤ _), (by decide : 32 + 0 ≤ _)⟩)
        dsimp only [Pt.U, Pt.locs, Pt.cells, Pt.slots] at X64 l64 y64 z64 st64 hQ64
        subst l64 y64 z64
        obtain ⟨rfl, Nq64, hh64⟩ := hQ64
        have N64 := Fr.app N63 Nq64
        have e64 : T64.heap = T60.heap := hh64
        have pre65 : ∀ t, Steps p.tables e below (T64.setTop (mkF m 234 #[.val (.int p0), .val (.int p1), .val (.int p2), .val (.int zn), .val (.ref ar3), .val (.ref b5), .val (.long ((zn - (0 : Int32)).toInt64)), .second, .val (.ref x33), .val (.int (own_after vs3 (.int (0 : Int32)) zn (0 : Int32))), .val (.long ((zn - (own_after vs3 (.int (0 : Int32)) zn (0 : Int32))).toInt64)), .second, .val (.ref x53), .val (.int (own_after vs3 (.int (0 : Int32)) zn (own_after vs3 (.int (0 : Int32)) zn (0 : Int32)))), .val (.long ((zn - (own_after vs3 (.int (0 : Int32)) zn (own_after vs3 (.int (0 : Int32)) zn (0 : Int32)))).toInt64)), .second, .val .null, .val (.int (own_after vs3 (.int (0 : Int32)) zn (own_after vs3 (.int (0 : Int32)) zn (own_after vs3 (.int (0 : Int32)) zn (0 : Int32))))), .val (.long ((zn - (own_after vs3 (.int (0 : Int32)) zn (own_after vs3 (.int (0 : Int32)) zn (own_after vs3 (.int (0 : Int32)) zn (0 : Int32))))).toInt64)), .second] [(.int (1 : Int32))])) t → Steps p.tables e below (s₁.setTop (entryFrame m #[(.int p0), (.int p1), (.int p2)] maxLocals)) t := fun t k => by
          refine pre58 t ?_
          show Steps p.tables e below (T57.setTop (mkF m 168 #[.val (.int p0), .val (.int p1), .val (.int p2), .val (.int zn), .val (.ref ar3), .val (.ref b5), .val (.long ((zn - (0 : Int32)).toInt64)), .second, .val (.ref x33), .val (.int (own_after vs3 (.int (0 : Int32)) zn (0 : Int32))), .val (.long ((zn - (own_after vs3 (.int (0 : Int32)) zn (0 : Int32))).toInt64)), .second, .val (.ref x53), .val (.int (own_after vs3 (.int (0 : Int32)) zn (own_after vs3 (.int (0 : Int32)) zn (0 : Int32)))), .val (.long ((zn - (own_after vs3 (.int (0 : Int32)) zn (own_after vs3 (.int (0 : Int32)) zn (0 : Int32)))).toInt64)), .second, .unset, .unset, .unset, .unset] [])) _
          refine XS.aload X57.here hx rfl (hb hby at_168) rfl rfl ?_
          show Steps p.tables e below (T57.setTop (mkF m 170 #[.val (.int p0), .val (.int p1), .val (.int p2), .val (.int zn), .val (.ref ar3), .val (.ref b5), .val (.long ((zn - (0 : Int32)).toInt64)), .second, .val (.ref x33), .val (.int (own_after vs3 (.int (0 : Int32)) zn (0 : Int32))), .val (.long ((zn - (own_after vs3 (.int (0 : Int32)) zn (0 : Int32))).toInt64)), .second, .val (.ref x53), .val (.int (own_after vs3 (.int (0 : Int32)) zn (own_after vs3 (.int (0 : Int32)) zn (0 : Int32)))), .val (.long ((zn - (own_after vs3 (.int (0 : Int32)) zn (own_after vs3 (.int (0 : Int32)) zn (0 : Int32)))).toInt64)), .second, .unset, .unset, .unset, .unset] [(.ref b5)])) _
          refine st60.trans ?_
          show Steps p.tables e below (T60.setTop (mkF m 173 #[.val (.int p0), .val (.int p1), .val (.int p2), .val (.int zn), .val (.ref ar3), .val (.ref b5), .val (.long ((zn - (0 : Int32)).toInt64)), .second, .val (.ref x33), .val (.int (own_after vs3 (.int (0 : Int32)) zn (0 : Int32))), .val (.long ((zn - (own_after vs3 (.int (0 : Int32)) zn (0 : Int32))).toInt64)), .second, .val (.ref x53), .val (.int (own_after vs3 (.int (0 : Int32)) zn (own_after vs3 (.int (0 : Int32)) zn (0 : Int32)))), .val (.long ((zn - (own_after vs3 (.int (0 : Int32)) zn (own_after vs3 (.int (0 : Int32)) zn (0 : Int32)))).toInt64)), .second, .unset, .unset, .unset, .unset] [.null])) _
          refine XS.astore X60.here hx rfl (hb hby at_173) rfl rfl (l' := #[.val (.int p0), .val (.int p1), .val (.int p2), .val (.int zn), .val (.ref ar3), .val (.ref b5), .val (.long ((zn - (0 : Int32)).toInt64)), .second, .val (.ref x33), .val (.int (own_after vs3 (.int (0 : Int32)) zn (0 : Int32))), .val (.long ((zn - (own_after vs3 (.int (0 : Int32)) zn (0 : Int32))).toInt64)), .second, .val (.ref x53), .val (.int (own_after vs3 (.int (0 : Int32)) zn (own_after vs3 (.int (0 : Int32)) zn (0 : Int32)))), .val (.long ((zn - (own_after vs3 (.int (0 : Int32)) zn (own_after vs3 (.int (0 : Int32)) zn (0 : Int32)))).toInt64)), .second, .val .null, .unset, .unset, .unset]) rfl ?_
          show Steps p.tables e below (T60.setTop (mkF m 175 #[.val (.int p0), .val (.int p1), .val (.int p2), .val (.int zn), .val (.ref ar3), .val (.ref b5), .val (.long ((zn - (0 : Int32)).toInt64)), .second, .val (.ref x33), .val (.int (own_after vs3 (.int (0 : Int32)) zn (0 : Int32))), .val (.long ((zn - (own_after vs3 (.int (0 : Int32)) zn (0 : Int32))).toInt64)), .second, .val (.ref x53), .val (.int (own_after vs3 (.int (0 : Int32)) zn (own_after vs3 (.int (0 : Int32)) zn (0 : Int32)))), .val (.long ((zn - (own_after vs3 (.int (0 : Int32)) zn (own_after vs3 (.int (0 : Int32)) zn (0 : Int32)))).toInt64)), .second, .val .null, .unset, .unset, .unset] [])) _
          refine XS.aload X60.here hx rfl (hb hby at_175) rfl rfl ?_
          show Steps p.tables e below (T60.setTop (mkF m 177 #[.val (.int p0), .val (.int p1), .val (.int p2), .val (.int zn), .val (.ref ar3), .val (.ref b5), .val (.long ((zn - (0 : Int32)).toInt64)), .second, .val (.ref x33), .val (.int (own_after vs3 (.int (0 : Int32)) zn (0 : Int32))), .val (.long ((zn - (own_after vs3 (.int (0 : Int32)) zn (0 : Int32))).toInt64)), .second, .val (.ref x53), .val (.int (own_after vs3 (.int (0 : Int32)) zn (own_after vs3 (.int (0 : Int32)) zn (0 : Int32)))), .val (.long ((zn - (own_after vs3 (.int (0 : Int32)) zn (own_after vs3 (.int (0 : Int32)) zn (0 : Int32)))).toInt64)), .second, .val .null, .unset, .unset, .unset] [.null])) _
          refine XS.ifnonnullNo X60.here hx rfl (hb hby at_177) rfl ?_
          show Steps p.tables e below (T60.setTop (mkF m 180 #[.val (.int p0), .val (.int p1), .val (.int p2), .val (.int zn), .val (.ref ar3), .val (.ref b5), .val (.long ((zn - (0 : Int32)).toInt64)), .second, .val (.ref x33), .val (.int (own_after vs3 (.int (0 : Int32)) zn (0 : Int32))), .val (.long ((zn - (own_after vs3 (.int (0 : Int32)) zn (0 : Int32))).toInt64)), .second, .val (.ref x53), .val (.int (own_after vs3 (.int (0 : Int32)) zn (own_after vs3 (.int (0 : Int32)) zn (0 : Int32)))), .val (.long ((zn - (own_after vs3 (.int (0 : Int32)) zn (own_after vs3 (.int (0 : Int32)) zn (0 : Int32)))).toInt64)), .second, .val .null, .unset, .unset, .unset] [])) _
          refine XS.iconst X60.here hx rfl (hb hby at_180) ?_
          show Steps p.tables e below (T60.setTop (mkF m 181 #[.val (.int p0), .val (.int p1), .val (.int p2), .val (.int zn), .val (.ref ar3), .val (.ref b5), .val (.long ((zn - (0 : Int32)).toInt64)), .second, .val (.ref x33), .val (.int (own_after vs3 (.int (0 : Int32)) zn (0 : Int32))), .val (.long ((zn - (own_after vs3 (.int (0 : Int32)) zn (0 : Int32))).toInt64)), .second, .val (.ref x53), .val (.int (own_after vs3 (.int (0 : Int32)) zn (own_after vs3 (.int (0 : Int32)) zn (0 : Int32)))), .val (.long ((zn - (own_after vs3 (.int (0 : Int32)) zn (own_after vs3 (.int (0 : Int32)) zn (0 : Int32)))).toInt64)), .second, .val .null, .unset, .unset, .unset] [(.int (1 : Int32))])) _
          refine XS.goto X60.here hx rfl (pc0 := 181) (pc' := 185) rfl (hb hby at_181) (by decide) (by decide) ?_
          show Steps p.tables e below (T60.setTop (mkF m 185 #[.val (.int p0), .val (.int p1), .val (.int p2), .val (.int zn), .val (.ref ar3), .val (.ref b5), .val (.long ((zn - (0 : Int32)).toInt64)), .second, .val (.ref x33), .val (.int (own_after vs3 (.int (0 : Int32)) zn (0 : Int32))), .val (.long ((zn - (own_after vs3 (.int (0 : Int32)) zn (0 : Int32))).toInt64)), .second, .val (.ref x53), .val (.int (own_after vs3 (.int (0 : Int32)) zn (own_after vs3 (.int (0 : Int32)) zn (0 : Int32)))), .val (.long ((zn - (own_after vs3 (.int (0 : Int32)) zn (own_after vs3 (.int (0 : Int32)) zn (0 : Int32)))).toInt64)), .second, .val .null, .unset, .unset, .unset] [(.int (1 : Int32))])) _
          refine XS.lload X60.here hx rfl (hb hby at_185) rfl ?_
          show Steps p.tables e below (T60.setTop (mkF m 187 #[.val (.int p0), .val (.int p1), .val (.int p2), .val (.int zn), .val (.ref ar3), .val (.ref b5), .val (.long ((zn - (0 : Int32)).toInt64)), .second, .val (.ref x33), .val (.int (own_after vs3 (.int (0 : Int32)) zn (0 : Int32))), .val (.long ((zn - (own_after vs3 (.int (0 : Int32)) zn (0 : Int32))).toInt64)), .second, .val (.ref x53), .val (.int (own_after vs3 (.int (0 : Int32)) zn (own_after vs3 (.int (0 : Int32)) zn (0 : Int32)))), .val (.long ((zn - (own_after vs3 (.int (0 : Int32)) zn (own_after vs3 (.int (0 : Int32)) zn (0 : Int32)))).toInt64)), .second, .val .null, .unset, .unset, .unset] [(.long ((zn - (own_after vs3 (.int (0 : Int32)) zn (own_after vs3 (.int (0 : Int32)) zn (0 : Int32)))).toInt64)), (.int (1 : Int32))])) _
          refine XS.lconst X60.here hx rfl (hb hby at_187) ?_
          show Steps p.tables e below (T60.setTop (mkF m 188 #[.val (.int p0), .val (.int p1), .val (.int p2), .val (.int zn), .val (.ref ar3), .val (.ref b5), .val (.long ((zn - (0 : Int32)).toInt64)), .second, .val (.ref x33), .val (.int (own_after vs3 (.int (0 : Int32)) zn (0 : Int32))), .val (.long ((zn - (own_after vs3 (.int (0 : Int32)) zn (0 : Int32))).toInt64)), .second, .val (.ref x53), .val (.int (own_after vs3 (.int (0 : Int32)) zn (own_after vs3 (.int (0 : Int32)) zn (0 : Int32)))), .val (.long ((zn - (own_after vs3 (.int (0 : Int32)) zn (own_after vs3 (.int (0 : Int32)) zn (0 : Int32)))).toInt64)), .second, .val .null, .unset, .unset, .unset] [(.long (0 : Int64)), (.long ((zn - (own_after vs3 (.int (0 : Int32)) zn (own_after vs3 (.int (0 : Int32)) zn (0 : Int32)))).toInt64)), (.int (1 : Int32))])) _
          refine XS.lcmp X60.here hx rfl (hb hby at_188) rfl ?_
          show Steps p.tables e below (T60.setTop (mkF m 189 #[.val (.int p0), .val (.int p1), .val (.int p2), .val (.int zn), .val (.ref ar3), .val (.ref b5), .val (.long ((zn - (0 : Int32)).toInt64)), .second, .val (.ref x33), .val (.int (own_after vs3 (.int (0 : Int32)) zn (0 : Int32))), .val (.long ((zn - (own_after vs3 (.int (0 : Int32)) zn (0 : Int32))).toInt64)), .second, .val (.ref x53), .val (.int (own_after vs3 (.int (0 : Int32)) zn (own_after vs3 (.int (0 : Int32)) zn (0 : Int32)))), .val (.long ((zn - (own_after vs3 (.int (0 : Int32)) zn (own_after vs3 (.int (0 : Int32)) zn (0 : Int32)))).toInt64)), .second, .val .null, .unset, .unset, .unset] [(.int (lcmpW ((zn - (own_after vs3 (.int (0 : Int32)) zn (own_after vs3 (.int (0 : Int32)) zn (0 : Int32)))).toInt64) (0 : Int64))), (.int (1 : Int32))])) _
          refine XS.ifNo X60.here hx rfl (hb hby at_189) rfl ((if0 _ _).trans (teq (own_lz hs_59 : (lcmpW ((zn - (own_after vs3 (.int (0 : Int32)) zn (own_after vs3 (.int (0 : Int32)) zn (0 : Int32)))).toInt64) (0 : Int64)) = (0 : Int32))).2) ?_
          show Steps p.tables e below (T60.setTop (mkF m 192 #[.val (.int p0), .val (.int p1), .val (.int p2), .val (.int zn), .val (.ref ar3), .val (.ref b5), .val (.long ((zn - (0 : Int32)).toInt64)), .second, .val (.ref x33), .val (.int (own_after vs3 (.int (0 : Int32)) zn (0 : Int32))), .val (.long ((zn - (own_after vs3 (.int (0 : Int32)) zn (0 : Int32))).toInt64)), .second, .val (.ref x53), .val (.int (own_after vs3 (.int (0 : Int32)) zn (own_after vs3 (.int (0 : Int32)) zn (0 : Int32)))), .val (.long ((zn - (own_after vs3 (.int (0 : Int32)) zn (own_after vs3 (.int (0 : Int32)) zn (0 : Int32)))).toInt64)), .second, .val .null, .unset, .unset, .unset] [(.int (1 : Int32))])) _
          refine XS.iconst X60.here hx rfl (hb hby at_192) ?_
          show Steps p.tables e below (T60.setTop (mkF m 193 #[.val (.int p0), .val (.int p1), .val (.int p2), .val (.int zn), .val (.ref ar3), .val (.ref b5), .val (.long ((zn - (0 : Int32)).toInt64)), .second, .val (.ref x33), .val (.int (own_after vs3 (.int (0 : Int32)) zn (0 : Int32))), .val (.long ((zn - (own_after vs3 (.int (0 : Int32)) zn (0 : Int32))).toInt64)), .second, .val (.ref x53), .val (.int (own_after vs3 (.int (0 : Int32)) zn (own_after vs3 (.int (0 : Int32)) zn (0 : Int32)))), .val (.long ((zn - (own_after vs3 (.int (0 : Int32)) zn (own_after vs3 (.int (0 : Int32)) zn (0 : Int32)))).toInt64)), .second, .val .null, .unset, .unset, .unset] [(.int (1 : Int32)), (.int (1 : Int32))])) _
          refine XS.goto X60.here hx rfl (pc0 := 193) (pc' := 197) rfl (hb hby at_193) (by decide) (by decide) ?_
          show Steps p.tables e below (T60.setTop (mkF m 197 #[.val (.int p0), .val (.int p1), .val (.int p2), .val (.int zn), .val (.ref ar3), .val (.ref b5), .val (.long ((zn - (0 : Int32)).toInt64)), .second, .val (.ref x33), .val (.int (own_after vs3 (.int (0 : Int32)) zn (0 : Int32))), .val (.long ((zn - (own_after vs3 (.int (0 : Int32)) zn (0 : Int32))).toInt64)), .second, .val (.ref x53), .val (.int (own_after vs3 (.int (0 : Int32)) zn (own_after vs3 (.int (0 : Int32)) zn (0 : Int32)))), .val (.long ((zn - (own_after vs3 (.int (0 : Int32)) zn (own_after vs3 (.int (0 : Int32)) zn (0 : Int32)))).toInt64)), .second, .val .null, .unset, .unset, .unset] [(.int (1 : Int32)), (.int (1 : Int32))])) _
          refine XS.icmpYes X60.here hx rfl (pc0 := 197) (pc' := 202) rfl (hb hby at_197) rfl (teq (by decide : (1 : Int32) = (1 : Int32))).1 (by decide) (by decide) ?_
          show Steps p.tables e below (T60.setTop (mkF m 202 #[.val (.int p0), .val (.int p1), .val (.int p2), .val (.int zn), .val (.ref ar3), .val (.ref b5), .val (.long ((zn - (0 : Int32)).toInt64)), .second, .val (.ref x33), .val (.int (own_after vs3 (.int (0 : Int32)) zn (0 : Int32))), .val (.long ((zn - (own_after vs3 (.int (0 : Int32)) zn (0 : Int32))).toInt64)), .second, .val (.ref x53), .val (.int (own_after vs3 (.int (0 : Int32)) zn (own_after vs3 (.int (0 : Int32)) zn (0 : Int32)))), .val (.long ((zn - (own_after vs3 (.int (0 : Int32)) zn (own_after vs3 (.int (0 : Int32)) zn (0 : Int32)))).toInt64)), .second, .val .null, .unset, .unset, .unset] [])) _
          refine XS.aload X60.here hx rfl (hb hby at_202) rfl rfl ?_
          show Steps p.tables e below (T60.setTop (mkF m 204 #[.val (.int p0), .val (.int p1), .val (.int p2), .val (.int zn), .val (.ref ar3), .val (.ref b5), .val (.long ((zn - (0 : Int32)).toInt64)), .second, .val (.ref x33), .val (.int (own_after vs3 (.int (0 : Int32)) zn (0 : Int32))), .val (.long ((zn - (own_after vs3 (.int (0 : Int32)) zn (0 : Int32))).toInt64)), .second, .val (.ref x53), .val (.int (own_after vs3 (.int (0 : Int32)) zn (own_after vs3 (.int (0 : Int32)) zn (0 : Int32)))), .val (.long ((zn - (own_after vs3 (.int (0 : Int32)) zn (own_after vs3 (.int (0 : Int32)) zn (0 : Int32)))).toInt64)), .second, .val .null, .unset, .unset, .unset] [(.ref ar3)])) _
          refine XS.iload X60.here hx rfl (hb hby at_204) rfl ?_
          show Steps p.tables e below (T60.setTop (mkF m 206 #[.val (.int p0), .val (.int p1), .val (.int p2), .val (.int zn), .val (.ref ar3), .val (.ref b5), .val (.long ((zn - (0 : Int32)).toInt64)), .second, .val (.ref x33), .val (.int (own_after vs3 (.int (0 : Int32)) zn (0 : Int32))), .val (.long ((zn - (own_after vs3 (.int (0 : Int32)) zn (0 : Int32))).toInt64)), .second, .val (.ref x53), .val (.int (own_after vs3 (.int (0 : Int32)) zn (own_after vs3 (.int (0 : Int32)) zn (0 : Int32)))), .val (.long ((zn - (own_after vs3 (.int (0 : Int32)) zn (own_after vs3 (.int (0 : Int32)) zn (0 : Int32)))).toInt64)), .second, .val .null, .unset, .unset, .unset] [(.int (own_after vs3 (.int (0 : Int32)) zn (own_after vs3 (.int (0 : Int32)) zn (0 : Int32)))), (.ref ar3)])) _
          refine st63 _ ?_
          show Steps p.tables e below (T63.setTop (mkF m 209 #[.val (.int p0), .val (.int p1), .val (.int p2), .val (.int zn), .val (.ref ar3), .val (.ref b5), .val (.long ((zn - (0 : Int32)).toInt64)), .second, .val (.ref x33), .val (.int (own_after vs3 (.int (0 : Int32)) zn (0 : Int32))), .val (.long ((zn - (own_after vs3 (.int (0 : Int32)) zn (0 : Int32))).toInt64)), .second, .val (.ref x53), .val (.int (own_after vs3 (.int (0 : Int32)) zn (own_after vs3 (.int (0 : Int32)) zn (0 : Int32)))), .val (.long ((zn - (own_after vs3 (.int (0 : Int32)) zn (own_after vs3 (.int (0 : Int32)) zn (0 : Int32)))).toInt64)), .second, .val .null, .unset, .unset, .unset] [(.int (own_after vs3 (.int (0 : Int32)) zn (own_after vs3 (.int (0 : Int32)) zn (own_after vs3 (.int (0 : Int32)) zn (0 : Int32)))))])) _
          refine XS.istore X63.here hx rfl (hb hby at_209) rfl (l' := #[.val (.int p0), .val (.int p1), .val (.int p2), .val (.int zn), .val (.ref ar3), .val (.ref b5), .val (.long ((zn - (0 : Int32)).toInt64)), .second, .val (.ref x33), .val (.int (own_after vs3 (.int (0 : Int32)) zn (0 : Int32))), .val (.long ((zn - (own_after vs3 (.int (0 : Int32)) zn (0 : Int32))).toInt64)), .second, .val (.ref x53), .val (.int (own_after vs3 (.int (0 : Int32)) zn (own_after vs3 (.int (0 : Int32)) zn (0 : Int32)))), .val (.long ((zn - (own_after vs3 (.int (0 : Int32)) zn (own_after vs3 (.int (0 : Int32)) zn (0 : Int32)))).toInt64)), .second, .val .null, .val (.int (own_after vs3 (.int (0 : Int32)) zn (own_after vs3 (.int (0 : Int32)) zn (own_after vs3 (.int (0 : Int32)) zn (0 : Int32))))), .unset, .unset]) rfl ?_
          show Steps p.tables e below (T63.setTop (mkF m 211 #[.val (.int p0), .val (.int p1), .val (.int p2), .val (.int zn), .val (.ref ar3), .val (.ref b5), .val (.long ((zn - (0 : Int32)).toInt64)), .second, .val (.ref x33), .val (.int (own_after vs3 (.int (0 : Int32)) zn (0 : Int32))), .val (.long ((zn - (own_after vs3 (.int (0 : Int32)) zn (0 : Int32))).toInt64)), .second, .val (.ref x53), .val (.int (own_after vs3 (.int (0 : Int32)) zn (own_after vs3 (.int (0 : Int32)) zn (0 : Int32)))), .val (.long ((zn - (own_after vs3 (.int (0 : Int32)) zn (own_after vs3 (.int (0 : Int32)) zn (0 : Int32)))).toInt64)), .second, .val .null, .val (.int (own_after vs3 (.int (0 : Int32)) zn (own_after vs3 (.int (0 : Int32)) zn (own_after vs3 (.int (0 : Int32)) zn (0 : Int32))))), .unset, .unset] [])) _
          refine XS.aload X63.here hx rfl (hb hby at_211) rfl rfl ?_
          show Steps p.tables e below (T63.setTop (mkF m 213 #[.val (.int p0), .val (.int p1), .val (.int p2), .val (.int zn), .val (.ref ar3), .val (.ref b5), .val (.long ((zn - (0 : Int32)).toInt64)), .second, .val (.ref x33), .val (.int (own_after vs3 (.int (0 : Int32)) zn (0 : Int32))), .val (.long ((zn - (own_after vs3 (.int (0 : Int32)) zn (0 : Int32))).toInt64)), .second, .val (.ref x53), .val (.int (own_after vs3 (.int (0 : Int32)) zn (own_after vs3 (.int (0 : Int32)) zn (0 : Int32)))), .val (.long ((zn - (own_after vs3 (.int (0 : Int32)) zn (own_after vs3 (.int (0 : Int32)) zn (0 : Int32)))).toInt64)), .second, .val .null, .val (.int (own_after vs3 (.int (0 : Int32)) zn (own_after vs3 (.int (0 : Int32)) zn (own_after vs3 (.int (0 : Int32)) zn (0 : Int32))))), .unset, .unset] [(.ref b5)])) _
          refine st64.trans ?_
          show Steps p.tables e below (T64.setTop (mkF m 216 #[.val (.int p0), .val (.int p1), .val (.int p2), .val (.int zn), .val (.ref ar3), .val (.ref b5), .val (.long ((zn - (0 : Int32)).toInt64)), .second, .val (.ref x33), .val (.int (own_after vs3 (.int (0 : Int32)) zn (0 : Int32))), .val (.long ((zn - (own_after vs3 (.int (0 : Int32)) zn (0 : Int32))).toInt64)), .second, .val (.ref x53), .val (.int (own_after vs3 (.int (0 : Int32)) zn (own_after vs3 (.int (0 : Int32)) zn (0 : Int32)))), .val (.long ((zn - (own_after vs3 (.int (0 : Int32)) zn (own_after vs3 (.int (0 : Int32)) zn (0 : Int32)))).toInt64)), .second, .val .null, .val (.int (own_after vs3 (.int (0 : Int32)) zn (own_after vs3 (.int (0 : Int32)) zn (own_after vs3 (.int (0 : Int32)) zn (0 : Int32))))), .unset, .unset] [(.long ((zn - (own_after vs3 (.int (0 : Int32)) zn (own_after vs3 (.int (0 : Int32)) zn (own_after vs3 (.int (0 : Int32)) zn (0 : Int32))))).toInt64))])) _
          refine XS.lstore X64.here hx rfl (hb hby at_216) rfl (l' := #[.val (.int p0), .val (.int p1), .val (.int p2), .val (.int zn), .val (.ref ar3), .val (.ref b5), .val (.long ((zn - (0 : Int32)).toInt64)), .second, .val (.ref x33), .val (.int (own_after vs3 (.int (0 : Int32)) zn (0 : Int32))), .val (.long ((zn - (own_after vs3 (.int (0 : Int32)) zn (0 : Int32))).toInt64)), .second, .val (.ref x53), .val (.int (own_after vs3 (.int (0 : Int32)) zn (own_after vs3 (.int (0 : Int32)) zn (0 : Int32)))), .val (.long ((zn - (own_after vs3 (.int (0 : Int32)) zn (own_after vs3 (.int (0 : Int32)) zn (0 : Int32)))).toInt64)), .second, .val .null, .val (.int (own_after vs3 (.int (0 : Int32)) zn (own_after vs3 (.int (0 : Int32)) zn (own_after vs3 (.int (0 : Int32)) zn (0 : Int32))))), .val (.long ((zn - (own_after vs3 (.int (0 : Int32)) zn (own_after vs3 (.int (0 : Int32)) zn (own_after vs3 (.int (0 : Int32)) zn (0 : Int32))))).toInt64)), .second]) rfl ?_
          show Steps p.tables e below (T64.setTop (mkF m 218 #[.val (.int p0), .val (.int p1), .val (.int p2), .val (.int zn), .val (.ref ar3), .val (.ref b5), .val (.long ((zn - (0 : Int32)).toInt64)), .second, .val (.ref x33), .val (.int (own_after vs3 (.int (0 : Int32)) zn (0 : Int32))), .val (.long ((zn - (own_after vs3 (.int (0 : Int32)) zn (0 : Int32))).toInt64)), .second, .val (.ref x53), .val (.int (own_after vs3 (.int (0 : Int32)) zn (own_after vs3 (.int (0 : Int32)) zn (0 : Int32)))), .val (.long ((zn - (own_after vs3 (.int (0 : Int32)) zn (own_after vs3 (.int (0 : Int32)) zn (0 : Int32)))).toInt64)), .second, .val .null, .val (.int (own_after vs3 (.int (0 : Int32)) zn (own_after vs3 (.int (0 : Int32)) zn (own_after vs3 (.int (0 : Int32)) zn (0 : Int32))))), .val (.long ((zn - (own_after vs3 (.int (0 : Int32)) zn (own_after vs3 (.int (0 : Int32)) zn (own_after vs3 (.int (0 : Int32)) zn (0 : Int32))))).toInt64)), .second] [])) _
          refine XS.lload X64.here hx rfl (hb hby at_218) rfl ?_
          show Steps p.tables e below (T64.setTop (mkF m 220 #[.val (.int p0), .val (.int p1), .val (.int p2), .val (.int zn), .val (.ref ar3), .val (.ref b5), .val (.long ((zn - (0 : Int32)).toInt64)), .second, .val (.ref x33), .val (.int (own_after vs3 (.int (0 : Int32)) zn (0 : Int32))), .val (.long ((zn - (own_after vs3 (.int (0 : Int32)) zn (0 : Int32))).toInt64)), .second, .val (.ref x53), .val (.int (own_after vs3 (.int (0 : Int32)) zn (own_after vs3 (.int (0 : Int32)) zn (0 : Int32)))), .val (.long ((zn - (own_after vs3 (.int (0 : Int32)) zn (own_after vs3 (.int (0 : Int32)) zn (0 : Int32)))).toInt64)), .second, .val .null, .val (.int (own_after vs3 (.int (0 : Int32)) zn (own_after vs3 (.int (0 : Int32)) zn (own_after vs3 (.int (0 : Int32)) zn (0 : Int32))))), .val (.long ((zn - (own_after vs3 (.int (0 : Int32)) zn (own_after vs3 (.int (0 : Int32)) zn (own_after vs3 (.int (0 : Int32)) zn (0 : Int32))))).toInt64)), .second] [(.long ((zn - (own_after vs3 (.int (0 : Int32)) zn (own_after vs3 (.int (0 : Int32)) zn (own_after vs3 (.int (0 : Int32)) zn (0 : Int32))))).toInt64))])) _
          refine XS.iloadN X64.here hx rfl (hb hby at_220) rfl ?_
          show Steps p.tables e below (T64.setTop (mkF m 221 #[.val (.int p0), .val (.int p1), .val (.int p2), .val (.int zn), .val (.ref ar3), .val (.ref b5), .val (.long ((zn - (0 : Int32)).toInt64)), .second, .val (.ref x33), .val (.int (own_after vs3 (.int (0 : Int32)) zn (0 : Int32))), .val (.long ((zn - (own_after vs3 (.int (0 : Int32)) zn (0 : Int32))).toInt64)), .second, .val (.ref x53), .val (.int (own_after vs3 (.int (0 : Int32)) zn (own_after vs3 (.int (0 : Int32)) zn (0 : Int32)))), .val (.long ((zn - (own_after vs3 (.int (0 : Int32)) zn (own_after vs3 (.int (0 : Int32)) zn (0 : Int32)))).toInt64)), .second, .val .null, .val (.int (own_after vs3 (.int (0 : Int32)) zn (own_after vs3 (.int (0 : Int32)) zn (own_after vs3 (.int (0 : Int32)) zn (0 : Int32))))), .val (.long ((zn - (own_after vs3 (.int (0 : Int32)) zn (own_after vs3 (.int (0 : Int32)) zn (own_after vs3 (.int (0 : Int32)) zn (0 : Int32))))).toInt64)), .second] [(.int zn), (.long ((zn - (own_after vs3 (.int (0 : Int32)) zn (own_after vs3 (.int (0 : Int32)) zn (own_after vs3 (.int (0 : Int32)) zn (0 : Int32))))).toInt64))])) _
          refine XS.iload X64.here hx rfl (hb hby at_221) rfl ?_
          show Steps p.tables e below (T64.setTop (mkF m 223 #[.val (.int p0), .val (.int p1), .val (.int p2), .val (.int zn), .val (.ref ar3), .val (.ref b5), .val (.long ((zn - (0 : Int32)).toInt64)), .second, .val (.ref x33), .val (.int (own_after vs3 (.int (0 : Int32)) zn (0 : Int32))), .val (.long ((zn - (own_after vs3 (.int (0 : Int32)) zn (0 : Int32))).toInt64)), .second, .val (.ref x53), .val (.int (own_after vs3 (.int (0 : Int32)) zn (own_after vs3 (.int (0 : Int32)) zn (0 : Int32)))), .val (.long ((zn - (own_after vs3 (.int (0 : Int32)) zn (own_after vs3 (.int (0 : Int32)) zn (0 : Int32)))).toInt64)), .second, .val .null, .val (.int (own_after vs3 (.int (0 : Int32)) zn (own_after vs3 (.int (0 : Int32)) zn (own_after vs3 (.int (0 : Int32)) zn (0 : Int32))))), .val (.long ((zn - (own_after vs3 (.int (0 : Int32)) zn (own_after vs3 (.int (0 : Int32)) zn (own_after vs3 (.int (0 : Int32)) zn (0 : Int32))))).toInt64)), .second] [(.int (own_after vs3 (.int (0 : Int32)) zn (own_after vs3 (.int (0 : Int32)) zn (own_after vs3 (.int (0 : Int32)) zn (0 : Int32))))), (.int zn), (.long ((zn - (own_after vs3 (.int (0 : Int32)) zn (own_after vs3 (.int (0 : Int32)) zn (own_after vs3 (.int (0 : Int32)) zn (0 : Int32))))).toInt64))])) _
          refine XS.isub X64.here hx rfl (hb hby at_223) rfl ?_
          show Steps p.tables e below (T64.setTop (mkF m 224 #[.val (.int p0), .val (.int p1), .val (.int p2), .val (.int zn), .val (.ref ar3), .val (.ref b5), .val (.long ((zn - (0 : Int32)).toInt64)), .second, .val (.ref x33), .val (.int (own_after vs3 (.int (0 : Int32)) zn (0 : Int32))), .val (.long ((zn - (own_after vs3 (.int (0 : Int32)) zn (0 : Int32))).toInt64)), .second, .val (.ref x53), .val (.int (own_after vs3 (.int (0 : Int32)) zn (own_after vs3 (.int (0 : Int32)) zn (0 : Int32)))), .val (.long ((zn - (own_after vs3 (.int (0 : Int32)) zn (own_after vs3 (.int (0 : Int32)) zn (0 : Int32)))).toInt64)), .second, .val .null, .val (.int (own_after vs3 (.int (0 : Int32)) zn (own_after vs3 (.int (0 : Int32)) zn (own_after vs3 (.int (0 : Int32)) zn (0 : Int32))))), .val (.long ((zn - (own_after vs3 (.int (0 : Int32)) zn (own_after vs3 (.int (0 : Int32)) zn (own_after vs3 (.int (0 : Int32)) zn (0 : Int32))))).toInt64)), .second] [(.int (zn - (own_after vs3 (.int (0 : Int32)) zn (own_after vs3 (.int (0 : Int32)) zn (own_after vs3 (.int (0 : Int32)) zn (0 : Int32)))))), (.long ((zn - (own_after vs3 (.int (0 : Int32)) zn (own_after vs3 (.int (0 : Int32)) zn (own_after vs3 (.int (0 : Int32)) zn (0 : Int32))))).toInt64))])) _
          refine XS.i2l X64.here hx rfl (hb hby at_224) rfl ?_
          show Steps p.tables e below (T64.setTop (mkF m 225 #[.val (.int p0), .val (.int p1), .val (.int p2), .val (.int zn), .val (.ref ar3), .val (.ref b5), .val (.long ((zn - (0 : Int32)).toInt64)), .second, .val (.ref x33), .val (.int (own_after vs3 (.int (0 : Int32)) zn (0 : Int32))), .val (.long ((zn - (own_after vs3 (.int (0 : Int32)) zn (0 : Int32))).toInt64)), .second, .val (.ref x53), .val (.int (own_after vs3 (.int (0 : Int32)) zn (own_after vs3 (.int (0 : Int32)) zn (0 : Int32)))), .val (.long ((zn - (own_after vs3 (.int (0 : Int32)) zn (own_after vs3 (.int (0 : Int32)) zn (0 : Int32)))).toInt64)), .second, .val .null, .val (.int (own_after vs3 (.int (0 : Int32)) zn (own_after vs3 (.int (0 : Int32)) zn (own_after vs3 (.int (0 : Int32)) zn (0 : Int32))))), .val (.long ((zn - (own_after vs3 (.int (0 : Int32)) zn (own_after vs3 (.int (0 : Int32)) zn (own_after vs3 (.int (0 : Int32)) zn (0 : Int32))))).toInt64)), .second] [(.long ((zn - (own_after vs3 (.int (0 : Int32)) zn (own_after vs3 (.int (0 : Int32)) zn (own_after vs3 (.int (0 : Int32)) zn (0 : Int32))))).toInt64)), (.long ((zn - (own_after vs3 (.int (0 : Int32)) zn (own_after vs3 (.int (0 : Int32)) zn (own_after vs3 (.int (0 : Int32)) zn (0 : Int32))))).toInt64))])) _
          refine XS.lcmp X64.here hx rfl (hb hby at_225) rfl ?_
          show Steps p.tables e below (T64.setTop (mkF m 226 #[.val (.int p0), .val (.int p1), .val (.int p2), .val (.int zn), .val (.ref ar3), .val (.ref b5), .val (.long ((zn - (0 : Int32)).toInt64)), .second, .val (.ref x33), .val (.int (own_after vs3 (.int (0 : Int32)) zn (0 : Int32))), .val (.long ((zn - (own_after vs3 (.int (0 : Int32)) zn (0 : Int32))).toInt64)), .second, .val (.ref x53), .val (.int (own_after vs3 (.int (0 : Int32)) zn (own_after vs3 (.int (0 : Int32)) zn (0 : Int32)))), .val (.long ((zn - (own_after vs3 (.int (0 : Int32)) zn (own_after vs3 (.int (0 : Int32)) zn (0 : Int32)))).toInt64)), .second, .val .null, .val (.int (own_after vs3 (.int (0 : Int32)) zn (own_after vs3 (.int (0 : Int32)) zn (own_after vs3 (.int (0 : Int32)) zn (0 : Int32))))), .val (.long ((zn - (own_after vs3 (.int (0 : Int32)) zn (own_after vs3 (.int (0 : Int32)) zn (own_after vs3 (.int (0 : Int32)) zn (0 : Int32))))).toInt64)), .second] [(.int (lcmpW ((zn - (own_after vs3 (.int (0 : Int32)) zn (own_after vs3 (.int (0 : Int32)) zn (own_after vs3 (.int (0 : Int32)) zn (0 : Int32))))).toInt64) ((zn - (own_after vs3 (.int (0 : Int32)) zn (own_after vs3 (.int (0 : Int32)) zn (own_after vs3 (.int (0 : Int32)) zn (0 : Int32))))).toInt64)))])) _
          refine XS.ifNo X64.here hx rfl (hb hby at_226) rfl ((if0 _ _).trans (teq (own_lc _ : (lcmpW ((zn - (own_after vs3 (.int (0 : Int32)) zn (own_after vs3 (.int (0 : Int32)) zn (own_after vs3 (.int (0 : Int32)) zn (0 : Int32))))).toInt64) ((zn - (own_after vs3 (.int (0 : Int32)) zn (own_after vs3 (.int (0 : Int32)) zn (own_after vs3 (.int (0 : Int32)) zn (0 : Int32))))).toInt64)) = (0 : Int32))).2) ?_
          show Steps p.tables e below (T64.setTop (mkF m 229 #[.val (.int p0), .val (.int p1), .val (.int p2), .val (.int zn), .val (.ref ar3), .val (.ref b5), .val (.long ((zn - (0 : Int32)).toInt64)), .second, .val (.ref x33), .val (.int (own_after vs3 (.int (0 : Int32)) zn (0 : Int32))), .val (.long ((zn - (own_after vs3 (.int (0 : Int32)) zn (0 : Int32))).toInt64)), .second, .val (.ref x53), .val (.int (own_after vs3 (.int (0 : Int32)) zn (own_after vs3 (.int (0 : Int32)) zn (0 : Int32)))), .val (.long ((zn - (own_after vs3 (.int (0 : Int32)) zn (own_after vs3 (.int (0 : Int32)) zn (0 : Int32)))).toInt64)), .second, .val .null, .val (.int (own_after vs3 (.int (0 : Int32)) zn (own_after vs3 (.int (0 : Int32)) zn (own_after vs3 (.int (0 : Int32)) zn (0 : Int32))))), .val (.long ((zn - (own_after vs3 (.int (0 : Int32)) zn (own_after vs3 (.int (0 : Int32)) zn (own_after vs3 (.int (0 : Int32)) zn (0 : Int32))))).toInt64)), .second] [])) _
          refine XS.iconst X64.here hx rfl (hb hby at_229) ?_
          show Steps p.tables e below (T64.setTop (mkF m 230 #[.val (.int p0), .val (.int p1), .val (.int p2), .val (.int zn), .val (.ref ar3), .val (.ref b5), .val (.long ((zn - (0 : Int32)).toInt64)), .second, .val (.ref x33), .val (.int (own_after vs3 (.int (0 : Int32)) zn (0 : Int32))), .val (.long ((zn - (own_after vs3 (.int (0 : Int32)) zn (0 : Int32))).toInt64)), .second, .val (.ref x53), .val (.int (own_after vs3 (.int (0 : Int32)) zn (own_after vs3 (.int (0 : Int32)) zn (0 : Int32)))), .val (.long ((zn - (own_after vs3 (.int (0 : Int32)) zn (own_after vs3 (.int (0 : Int32)) zn (0 : Int32)))).toInt64)), .second, .val .null, .val (.int (own_after vs3 (.int (0 : Int32)) zn (own_after vs3 (.int (0 : Int32)) zn (own_after vs3 (.int (0 : Int32)) zn (0 : Int32))))), .val (.long ((zn - (own_after vs3 (.int (0 : Int32)) zn (own_after vs3 (.int (0 : Int32)) zn (own_after vs3 (.int (0 : Int32)) zn (0 : Int32))))).toInt64)), .second] [(.int (1 : Int32))])) _
          refine XS.goto X64.here hx rfl (pc0 := 230) (pc' := 234) rfl (hb hby at_230) (by decide) (by decide) ?_
          exact k
        obtain ⟨fs, hrq, hrun, hended, hW, hsame⟩ := X64.leave (v := some (.int (1 : Int32))) (fun h => by rw [Bd.returns] at h; cases h)
        refine ⟨_, _, pre65 _ ?_, hrun, hended, _, _, rfl, ?_, ⟨_, rfl⟩, hW, hsame.mono (by decide) (by decide)⟩
        · show Steps p.tables e below (T64.setTop (mkF m 234 #[.val (.int p0), .val (.int p1), .val (.int p2), .val (.int zn), .val (.ref ar3), .val (.ref b5), .val (.long ((zn - (0 : Int32)).toInt64)), .second, .val (.ref x33), .val (.int (own_after vs3 (.int (0 : Int32)) zn (0 : Int32))), .val (.long ((zn - (own_after vs3 (.int (0 : Int32)) zn (0 : Int32))).toInt64)), .second, .val (.ref x53), .val (.int (own_after vs3 (.int (0 : Int32)) zn (own_after vs3 (.int (0 : Int32)) zn (0 : Int32)))), .val (.long ((zn - (own_after vs3 (.int (0 : Int32)) zn (own_after vs3 (.int (0 : Int32)) zn (0 : Int32)))).toInt64)), .second, .val .null, .val (.int (own_after vs3 (.int (0 : Int32)) zn (own_after vs3 (.int (0 : Int32)) zn (own_after vs3 (.int (0 : Int32)) zn (0 : Int32))))), .val (.long ((zn - (own_after vs3 (.int (0 : Int32)) zn (own_after vs3 (.int (0 : Int32)) zn (own_after vs3 (.int (0 : Int32)) zn (0 : Int32))))).toInt64)), .second] [(.int (1 : Int32))])) _
          exact retN X64 hx (t := .boolean) Bd.returns (by simp) (hb hby at_234) hrq
        · show Q0 Z p0 p1 p2 ln kl h0 n0 _ T64.heap _
          rw [e64]
          exact ⟨rfl, N64⟩
      · have hbb66 := own_lt3 hzb hB53 hs_59
        have hle66 : l253 = ln := hl53 (own_ltz hbb66)
        rw [hle66] at rd53
        have rdl66 := rd53
        have c67 : Arv Z T53.heap ln kl .byte (0 : Int32) [] (.int (0 : Int32)) := (c52.keep Kq53 (ninS (Ne.symm ne_rl) nin0))
        obtain ⟨cq68, kq68, q68a, q68b, q68c⟩ := isOf hZ e57 E_b5_53
        obtain ⟨_, _, ⟨T68, L68, k68, n68⟩, -, X68, ⟨Lc68, hQ68, l68, y68, z68⟩, st68⟩ := X57.virtualBack hx (y := (⟨"quorumkeep/store/Messages$Reader", "next", "()[B"⟩ : MethodName)) (z := (⟨"quorumkeep/store/Messages$Reader", "next", "()[B"⟩ : MethodName)) hown (mvT hZ (hw _ (List.mem_of_getElem? (i := 38) rfl))) (mvT hZ (hw _ (List.mem_of_getElem? (i := 39) rfl))) (notFace_of_selects (args := #[]) (mvT hZ (hw _ (List.mem_of_getElem? (i := 41) rfl)))) (mvT hZ (hw _ (List.mem_of_getElem? (i := 41) rfl))) (mvT hZ (hw _ (List.mem_of_getElem? (i := 40) rfl))) (by decide) (backOf (W := 0) (rmnextY l Z a0 hw [] b5 ar3 kk3 zn vs3 (.int (0 : Int32)) ln kl (own_after vs3 (.int (0 : Int32)) zn (own_after vs3 (.int (0 : Int32)) zn (0 : Int32))) T53.heap n0 Z54 rdl66 c67 c55 hbb66 g_b5) hZ (hw _ (List.mem_of_getElem? (i := 42) rfl)) (hw _ (List.mem_of_getElem? (i := 8) rfl)) (by decide) (by decide)) q68a q68c (g := (mkF m 170 #[.val (.int p0), .val (.int p1), .val (.int p2), .val (.int zn), .val (.ref ar3), .val (.ref b5), .val (.long ((zn - (0 : Int32)).toInt64)), .second, .val (.ref x33), .val (.int (own_after vs3 (.int (0 : Int32)) zn (0 : Int32))), .val (.long ((zn - (own_after vs3 (.int (0 : Int32)) zn (0 : Int32))).toInt64)), .second, .val (.ref x53), .val (.int (own_after vs3 (.int (0 : Int32)) zn (own_after vs3 (.int (0 : Int32)) zn (0 : Int32)))), .val (.long ((zn - (own_after vs3 (.int (0 : Int32)) zn (own_after vs3 (.int (0 : Int32)) zn (0 : Int32)))).toInt64)), .second, .unset, .unset, .unset, .unset] [(.ref b5)])) rfl (by rw [hml]; rfl) (Steps.refl _) (argsL := []) (rest := []) (lenOf pd_12 rfl) rfl (by show 2 * 0 + _ ≤ _; exact Nat.le_of_eq rfl) (hb hby at_170) (fun _ _ => ⟨rfl, e57, (by decide : 6 + 2 ≤ _), (by decide : 32 + 8 ≤ _)⟩)
        dsimp only [Pt.U, Pt.locs, Pt.cells, Pt.slots] at X68 l68 y68 z68 st68 hQ68
        subst l68 y68 z68
        obtain ⟨x68, rfl, Nq68, Kq68, l268, rd68, hl68⟩ := hQ68
        have N68 := Fr.app N57 Nq68
        have Z69 : n0 ≤ T68.heap.size := Nat.le_trans Z54 Kq68.1
        have hB68 := own_ab hzb hB53 vs3 (.int (0 : Int32))
        have rdc_68 := rd68
        obtain ⟨E_b5_68, F_line_68, F_length_68, F_budget_68, F_buffer_68, F_end_68, F_read_68, F_start_68, F_held_68, F_atEnd_68, ⟨u_size_68, F_size_68⟩, ⟨u_keep_68, F_keepable_68⟩⟩ := rdc_68
        have c70 : Arv Z T68.heap ar3 kk3 .byte zn vs3 (.int (0 : Int32)) := (c55.keep Kq68 (ninS (Ne.symm ne_ra) nin0))
        obtain ⟨_, _, ⟨T71, L71, k71, n71⟩, -, X71, ⟨Lc71, hQ71, l71, y71, z71⟩, st71⟩ := Jvm.LawKit.callS X68 hx (y := (⟨"quorumkeep/store/ReaderMostMessagesLeftPinLaw", "after", "([BI)I"⟩ : MethodName)) hown (mvT hZ (hw _ (List.mem_of_getElem? (i := 69) rfl))) (mvT hZ (hw _ (List.mem_of_getElem? (i := 70) rfl))) (mvT hZ (hw _ (List.mem_of_getElem? (i := 3) rfl))) (mvT hZ (hw _ (List.mem_of_getElem? (i := 71) rfl))) (by decide) (backOf (W := 0) (rmafter l Z a0 hw [] ar3 (own_after vs3 (.int (0 : Int32)) zn (own_after vs3 (.int (0 : Int32)) zn (0 : Int32))) kk3 zn vs3 (.int (0 : Int32)) T68.heap n0 Z69 c70) hZ (hw _ (List.mem_of_getElem? (i := 71) rfl)) (hw _ (List.mem_of_getElem? (i := 3) rfl)) (by decide) (by decide)) (g := (mkF m 206 #[.val (.int p0), .val (.int p1), .val (.int p2), .val (.int zn), .val (.ref ar3), .val (.ref b5), .val (.long ((zn - (0 : Int32)).toInt64)), .second, .val (.ref x33), .val (.int (own_after vs3 (.int (0 : Int32)) zn (0 : Int32))), .val (.long ((zn - (own_after vs3 (.int (0 : Int32)) zn (0 : Int32))).toInt64)), .second, .val (.ref x53), .val (.int (own_after vs3 (.int (0 : Int32)) zn (own_after vs3 (.int (0 : Int32)) zn (0 : Int32)))), .val (.long ((zn - (own_after vs3 (.int (0 : Int32)) zn (own_after vs3 (.int (0 : Int32)) zn (0 : Int32)))).toInt64)), .second, .val (.ref x68), .unset, .unset, .unset] [(.int (own_after vs3 (.int (0 : Int32)) zn (own_after vs3 (.int (0 : Int32)) zn (0 : Int32)))), (.ref ar3)])) rfl (by rw [hml]; rfl) (argsL := [(.ref ar3), (.int (own_after vs3 (.int (0 : Int32)) zn (own_after vs3 (.int (0 : Int32)) zn (0 : Int32))))]) (rest := []) (lenOf pd_13 rfl) rfl (by show 2 * 0 + _ ≤ _; exact Nat.le_of_eq rfl) (hb hby at_206) (fun _ _ => ⟨rfl, rfl, (by decide : 8 + 0 ≤ _), (by decide : 40 + 0 ≤ _)⟩)
        dsimp only [Pt.U, Pt.locs, Pt.cells, Pt.slots] at X71 l71 y71 z71 st71 hQ71
        subst l71 y71 z71
        obtain ⟨rfl, Nq71, hh71⟩ := hQ71
        have N71 := Fr.app N68 Nq71
        have e71 : T71.heap = T68.heap := hh71
        obtain ⟨cq72, kq72, q72a, q72b, q72c⟩ := isOf hZ e71 E_b5_68
        obtain ⟨_, _, ⟨T72, L72, k72, n72⟩, -, X72, ⟨Lc72, hQ72, l72, y72, z72⟩, st72⟩ := X71.virtualBack hx (y := (⟨"quorumkeep/store/Messages$Reader", "mostMessagesLeft", "()J"⟩ : MethodName)) (z := (⟨"quorumkeep/store/Messages$Reader", "mostMessagesLeft", "()J"⟩ : MethodName)) hown (mvT hZ (hw _ (List.mem_of_getElem? (i := 31) rfl))) (mvT hZ (hw _ (List.mem_of_getElem? (i := 32) rfl))) (notFace_of_selects (args := #[]) (mvT hZ (hw _ (List.mem_of_getElem? (i := 34) rfl)))) (mvT hZ (hw _ (List.mem_of_getElem? (i := 34) rfl))) (mvT hZ (hw _ (List.mem_of_getElem? (i := 33) rfl))) (by decide) (backOf (W := 0) (rmmm l Z a0 hw [] b5 zn (own_after vs3 (.int (0 : Int32)) zn (own_after vs3 (.int (0 : Int32)) zn (own_after vs3 (.int (0 : Int32)) zn (0 : Int32)))) T68.heap n0 Z69 F_length_68 F_end_68 F_start_68 F_read_68 (own_z0 hz)) hZ (hw _ (List.mem_of_getElem? (i := 35) rfl)) (hw _ (List.mem_of_getElem? (i := 8) rfl)) (by decide) (by decide)) q72a q72c (g := (mkF m 213 #[.val (.int p0), .val (.int p1), .val (.int p2), .val (.int zn), .val (.ref ar3), .val (.ref b5), .val (.long ((zn - (0 : Int32)).toInt64)), .second, .val (.ref x33), .val (.int (own_after vs3 (.int (0 : Int32)) zn (0 : Int32))), .val (.long ((zn - (own_after vs3 (.int (0 : Int32)) zn (0 : Int32))).toInt64)), .second, .val (.ref x53), .val (.int (own_after vs3 (.int (0 : Int32)) zn (own_after vs3 (.int (0 : Int32)) zn (0 : Int32)))), .val (.long ((zn - (own_after vs3 (.int (0 : Int32)) zn (own_after vs3 (.int (0 : Int32)) zn (0 : Int32)))).toInt64)), .second, .val (.ref x68), .val (.int (own_after vs3 (.int (0 : Int32)) zn (own_after vs3 (.int (0 : Int32)) zn (own_after vs3 (.int (0 : Int32)) zn (0 : Int32))))), .unset, .unset] [(.ref b5)])) rfl (by rw [hml]; rfl) (Steps.refl _) (argsL := []) (rest := []) (lenOf pd_11 rfl) rfl (by show 2 * 0 + _ ≤ _; exact Nat.le_of_eq rfl) (hb hby at_213) (fun _ _ => ⟨rfl, e71, (by decide : 8 + 0 ≤ _), (by decide : 40 + 0 ≤ _)⟩)
        dsimp only [Pt.U, Pt.locs, Pt.cells, Pt.slots] at X72 l72 y72 z72 st72 hQ72
        subst l72 y72 z72
        obtain ⟨rfl, Nq72, hh72⟩ := hQ72
        have N72 := Fr.app N71 Nq72
        have e72 : T72.heap = T68.heap := hh72
        have pre73 : ∀ t, Steps p.tables e below (T72.setTop (mkF m 234 #[.val (.int p0), .val (.int p1), .val (.int p2), .val (.int zn), .val (.ref ar3), .val (.ref b5), .val (.long ((zn - (0 : Int32)).toInt64)), .second, .val (.ref x33), .val (.int (own_after vs3 (.int (0 : Int32)) zn (0 : Int32))), .val (.long ((zn - (own_after vs3 (.int (0 : Int32)) zn (0 : Int32))).toInt64)), .second, .val (.ref x53), .val (.int (own_after vs3 (.int (0 : Int32)) zn (own_after vs3 (.int (0 : Int32)) zn (0 : Int32)))), .val (.long ((zn - (own_after vs3 (.int (0 : Int32)) zn (own_after vs3 (.int (0 : Int32)) zn (0 : Int32)))).toInt64)), .second, .val (.ref x68), .val (.int (own_after vs3 (.int (0 : Int32)) zn (own_after vs3 (.int (0 : Int32)) zn (own_after vs3 (.int (0 : Int32)) zn (0 : Int32))))), .val (.long ((zn - (own_after vs3 (.int (0 : Int32)) zn (own_after vs3 (.int (0 : Int32)) zn (own_after vs3 (.int (0 : Int32)) zn (0 : Int32))))).toInt64)), .second] [(.int (1 : Int32))])) t → Steps p.tables e below (s₁.setTop (entryFrame m #[(.int p0), (.int p1), (.int p2)] maxLocals)) t := fun t k => by
          refine pre58 t ?_
          show Steps p.tables e below (T57.setTop (mkF m 168 #[.val (.int p0), .val (.int p1), .val (.int p2), .val (.int zn), .val (.ref ar3), .val (.ref b5), .val (.long ((zn - (0 : Int32)).toInt64)), .second, .val (.ref x33), .val (.int (own_after vs3 (.int (0 : Int32)) zn (0 : Int32))), .val (.long ((zn - (own_after vs3 (.int (0 : Int32)) zn (0 : Int32))).toInt64)), .second, .val (.ref x53), .val (.int (own_after vs3 (.int (0 : Int32)) zn (own_after vs3 (.int (0 : Int32)) zn (0 : Int32)))), .val (.long ((zn - (own_after vs3 (.int (0 : Int32)) zn (own_after vs3 (.int (0 : Int32)) zn (0 : Int32)))).toInt64)), .second, .unset, .unset, .unset, .unset] [])) _
          refine XS.aload X57.here hx rfl (hb hby at_168) rfl rfl ?_
          show Steps p.tables e below (T57.setTop (mkF m 170 #[.val (.int p0), .val (.int p1), .val (.int p2), .val (.int zn), .val (.ref ar3), .val (.ref b5), .val (.long ((zn - (0 : Int32)).toInt64)), .second, .val (.ref x33), .val (.int (own_after vs3 (.int (0 : Int32)) zn (0 : Int32))), .val (.long ((zn - (own_after vs3 (.int (0 : Int32)) zn (0 : Int32))).toInt64)), .second, .val (.ref x53), .val (.int (own_after vs3 (.int (0 : Int32)) zn (own_after vs3 (.int (0 : Int32)) zn (0 : Int32)))), .val (.long ((zn - (own_after vs3 (.int (0 : Int32)) zn (own_after vs3 (.int (0 : Int32)) zn (0 : Int32)))).toInt64)), .second, .unset, .unset, .unset, .unset] [(.ref b5)])) _
          refine st68.trans ?_
          show Steps p.tables e below (T68.setTop (mkF m 173 #[.val (.int p0), .val (.int p1), .val (.int p2), .val (.int zn), .val (.ref ar3), .val (.ref b5), .val (.long ((zn - (0 : Int32)).toInt64)), .second, .val (.ref x33), .val (.int (own_after vs3 (.int (0 : Int32)) zn (0 : Int32))), .val (.long ((zn - (own_after vs3 (.int (0 : Int32)) zn (0 : Int32))).toInt64)), .second, .val (.ref x53), .val (.int (own_after vs3 (.int (0 : Int32)) zn (own_after vs3 (.int (0 : Int32)) zn (0 : Int32)))), .val (.long ((zn - (own_after vs3 (.int (0 : Int32)) zn (own_after vs3 (.int (0 : Int32)) zn (0 : Int32)))).toInt64)), .second, .unset, .unset, .unset, .unset] [(.ref x68)])) _
          refine XS.astore X68.here hx rfl (hb hby at_173) rfl rfl (l' := #[.val (.int p0), .val (.int p1), .val (.int p2), .val (.int zn), .val (.ref ar3), .val (.ref b5), .val (.long ((zn - (0 : Int32)).toInt64)), .second, .val (.ref x33), .val (.int (own_after vs3 (.int (0 : Int32)) zn (0 : Int32))), .val (.long ((zn - (own_after vs3 (.int (0 : Int32)) zn (0 : Int32))).toInt64)), .second, .val (.ref x53), .val (.int (own_after vs3 (.int (0 : Int32)) zn (own_after vs3 (.int (0 : Int32)) zn (0 : Int32)))), .val (.long ((zn - (own_after vs3 (.int (0 : Int32)) zn (own_after vs3 (.int (0 : Int32)) zn (0 : Int32)))).toInt64)), .second, .val (.ref x68), .unset, .unset, .unset]) rfl ?_
          show Steps p.tables e below (T68.setTop (mkF m 175 #[.val (.int p0), .val (.int p1), .val (.int p2), .val (.int zn), .val (.ref ar3), .val (.ref b5), .val (.long ((zn - (0 : Int32)).toInt64)), .second, .val (.ref x33), .val (.int (own_after vs3 (.int (0 : Int32)) zn (0 : Int32))), .val (.long ((zn - (own_after vs3 (.int (0 : Int32)) zn (0 : Int32))).toInt64)), .second, .val (.ref x53), .val (.int (own_after vs3 (.int (0 : Int32)) zn (own_after vs3 (.int (0 : Int32)) zn (0 : Int32)))), .val (.long ((zn - (own_after vs3 (.int (0 : Int32)) zn (own_after vs3 (.int (0 : Int32)) zn (0 : Int32)))).toInt64)), .second, .val (.ref x68), .unset, .unset, .unset] [])) _
          refine XS.aload X68.here hx rfl (hb hby at_175) rfl rfl ?_
          show Steps p.tables e below (T68.setTop (mkF m 177 #[.val (.int p0), .val (.int p1), .val (.int p2), .val (.int zn), .val (.ref ar3), .val (.ref b5), .val (.long ((zn - (0 : Int32)).toInt64)), .second, .val (.ref x33), .val (.int (own_after vs3 (.int (0 : Int32)) zn (0 : Int32))), .val (.long ((zn - (own_after vs3 (.int (0 : Int32)) zn (0 : Int32))).toInt64)), .second, .val (.ref x53), .val (.int (own_after vs3 (.int (0 : Int32)) zn (own_after vs3 (.int (0 : Int32)) zn (0 : Int32)))), .val (.long ((zn - (own_after vs3 (.int (0 : Int32)) zn (own_after vs3 (.int (0 : Int32)) zn (0 : Int32)))).toInt64)), .second, .val (.ref x68), .unset, .unset, .unset] [(.ref x68)])) _
          refine XS.ifnonnullYes X68.here hx rfl (pc0 := 177) (pc' := 184) rfl (hb hby at_177) rfl (by decide) (by decide) ?_
          show Steps p.tables e below (T68.setTop (mkF m 184 #[.val (.int p0), .val (.int p1), .val (.int p2), .val (.int zn), .val (.ref ar3), .val (.ref b5), .val (.long ((zn - (0 : Int32)).toInt64)), .second, .val (.ref x33), .val (.int (own_after vs3 (.int (0 : Int32)) zn (0 : Int32))), .val (.long ((zn - (own_after vs3 (.int (0 : Int32)) zn (0 : Int32))).toInt64)), .second, .val (.ref x53), .val (.int (own_after vs3 (.int (0 : Int32)) zn (own_after vs3 (.int (0 : Int32)) zn (0 : Int32)))), .val (.long ((zn - (own_after vs3 (.int (0 : Int32)) zn (own_after vs3 (.int (0 : Int32)) zn (0 : Int32)))).toInt64)), .second, .val (.ref x68), .unset, .unset, .unset] [])) _
          refine XS.iconst X68.here hx rfl (hb hby at_184) ?_
          show Steps p.tables e below (T68.setTop (mkF m 185 #[.val (.int p0), .val (.int p1), .val (.int p2), .val (.int zn), .val (.ref ar3), .val (.ref b5), .val (.long ((zn - (0 : Int32)).toInt64)), .second, .val (.ref x33), .val (.int (own_after vs3 (.int (0 : Int32)) zn (0 : Int32))), .val (.long ((zn - (own_after vs3 (.int (0 : Int32)) zn (0 : Int32))).toInt64)), .second, .val (.ref x53), .val (.int (own_after vs3 (.int (0 : Int32)) zn (own_after vs3 (.int (0 : Int32)) zn (0 : Int32)))), .val (.long ((zn - (own_after vs3 (.int (0 : Int32)) zn (own_after vs3 (.int (0 : Int32)) zn (0 : Int32)))).toInt64)), .second, .val (.ref x68), .unset, .unset, .unset] [(.int (0 : Int32))])) _
          refine XS.lload X68.here hx rfl (hb hby at_185) rfl ?_
          show Steps p.tables e below (T68.setTop (mkF m 187 #[.val (.int p0), .val (.int p1), .val (.int p2), .val (.int zn), .val (.ref ar3), .val (.ref b5), .val (.long ((zn - (0 : Int32)).toInt64)), .second, .val (.ref x33), .val (.int (own_after vs3 (.int (0 : Int32)) zn (0 : Int32))), .val (.long ((zn - (own_after vs3 (.int (0 : Int32)) zn (0 : Int32))).toInt64)), .second, .val (.ref x53), .val (.int (own_after vs3 (.int (0 : Int32)) zn (own_after vs3 (.int (0 : Int32)) zn (0 : Int32)))), .val (.long ((zn - (own_after vs3 (.int (0 : Int32)) zn (own_after vs3 (.int (0 : Int32)) zn (0 : Int32)))).toInt64)), .second, .val (.ref x68), .unset, .unset, .unset] [(.long ((zn - (own_after vs3 (.int (0 : Int32)) zn (own_after vs3 (.int (0 : Int32)) zn (0 : Int32)))).toInt64)), (.int (0 : Int32))])) _
          refine XS.lconst X68.here hx rfl (hb hby at_187) ?_
          show Steps p.tables e below (T68.setTop (mkF m 188 #[.val (.int p0), .val (.int p1), .val (.int p2), .val (.int zn), .val (.ref ar3), .val (.ref b5), .val (.long ((zn - (0 : Int32)).toInt64)), .second, .val (.ref x33), .val (.int (own_after vs3 (.int (0 : Int32)) zn (0 : Int32))), .val (.long ((zn - (own_after vs3 (.int (0 : Int32)) zn (0 : Int32))).toInt64)), .second, .val (.ref x53), .val (.int (own_after vs3 (.int (0 : Int32)) zn (own_after vs3 (.int (0 : Int32)) zn (0 : Int32)))), .val (.long ((zn - (own_after vs3 (.int (0 : Int32)) zn (own_after vs3 (.int (0 : Int32)) zn (0 : Int32)))).toInt64)), .second, .val (.ref x68), .unset, .unset, .unset] [(.long (0 : Int64)), (.long ((zn - (own_after vs3 (.int (0 : Int32)) zn (own_after vs3 (.int (0 : Int32)) zn (0 : Int32)))).toInt64)), (.int (0 : Int32))])) _
          refine XS.lcmp X68.here hx rfl (hb hby at_188) rfl ?_
          show Steps p.tables e below (T68.setTop (mkF m 189 #[.val (.int p0), .val (.int p1), .val (.int p2), .val (.int zn), .val (.ref ar3), .val (.ref b5), .val (.long ((zn - (0 : Int32)).toInt64)), .second, .val (.ref x33), .val (.int (own_after vs3 (.int (0 : Int32)) zn (0 : Int32))), .val (.long ((zn - (own_after vs3 (.int (0 : Int32)) zn (0 : Int32))).toInt64)), .second, .val (.ref x53), .val (.int (own_after vs3 (.int (0 : Int32)) zn (own_after vs3 (.int (0 : Int32)) zn (0 : Int32)))), .val (.long ((zn - (own_after vs3 (.int (0 : Int32)) zn (own_after vs3 (.int (0 : Int32)) zn (0 : Int32)))).toInt64)), .second, .val (.ref x68), .unset, .unset, .unset] [(.int (lcmpW ((zn - (own_after vs3 (.int (0 : Int32)) zn (own_after vs3 (.int (0 : Int32)) zn (0 : Int32)))).toInt64) (0 : Int64))), (.int (0 : Int32))])) _
          refine XS.ifYes X68.here hx rfl (pc0 := 189) (pc' := 196) rfl (hb hby at_189) rfl ((if0 _ _).trans (feq (own_lnz (own_nez hbb66) : ¬ ((lcmpW ((zn - (own_after vs3 (.int (0 : Int32)) zn (own_after vs3 (.int (0 : Int32)) zn (0 : Int32)))).toInt64) (0 : Int64)) = (0 : Int32)))).2) (by decide) (by decide) ?_
          show Steps p.tables e below (T68.setTop (mkF m 196 #[.val (.int p0), .val (.int p1), .val (.int p2), .val (.int zn), .val (.ref ar3), .val (.ref b5), .val (.long ((zn - (0 : Int32)).toInt64)), .second, .val (.ref x33), .val (.int (own_after vs3 (.int (0 : Int32)) zn (0 : Int32))), .val (.long ((zn - (own_after vs3 (.int (0 : Int32)) zn (0 : Int32))).toInt64)), .second, .val (.ref x53), .val (.int (own_after vs3 (.int (0 : Int32)) zn (own_after vs3 (.int (0 : Int32)) zn (0 : Int32)))), .val (.long ((zn - (own_after vs3 (.int (0 : Int32)) zn (own_after vs3 (.int (0 : Int32)) zn (0 : Int32)))).toInt64)), .second, .val (.ref x68), .unset, .unset, .unset] [(.int (0 : Int32))])) _
          refine XS.iconst X68.here hx rfl (hb hby at_196) ?_
          show Steps p.tables e below (T68.setTop (mkF m 197 #[.val (.int p0), .val (.int p1), .val (.int p2), .val (.int zn), .val (.ref ar3), .val (.ref b5), .val (.long ((zn - (0 : Int32)).toInt64)), .second, .val (.ref x33), .val (.int (own_after vs3 (.int (0 : Int32)) zn (0 : Int32))), .val (.long ((zn - (own_after vs3 (.int (0 : Int32)) zn (0 : Int32))).toInt64)), .second, .val (.ref x53), .val (.int (own_after vs3 (.int (0 : Int32)) zn (own_after vs3 (.int (0 : Int32)) zn (0 : Int32)))), .val (.long ((zn - (own_after vs3 (.int (0 : Int32)) zn (own_after vs3 (.int (0 : Int32)) zn (0 : Int32)))).toInt64)), .second, .val (.ref x68), .unset, .unset, .unset] [(.int (0 : Int32)), (.int (0 : Int32))])) _
          refine XS.icmpYes X68.here hx rfl (pc0 := 197) (pc' := 202) rfl (hb hby at_197) rfl (teq (by decide : (0 : Int32) = (0 : Int32))).1 (by decide) (by decide) ?_
          show Steps p.tables e below (T68.setTop (mkF m 202 #[.val (.int p0), .val (.int p1), .val (.int p2), .val (.int zn), .val (.ref ar3), .val (.ref b5), .val (.long ((zn - (0 : Int32)).toInt64)), .second, .val (.ref x33), .val (.int (own_after vs3 (.int (0 : Int32)) zn (0 : Int32))), .val (.long ((zn - (own_after vs3 (.int (0 : Int32)) zn (0 : Int32))).toInt64)), .second, .val (.ref x53), .val (.int (own_after vs3 (.int (0 : Int32)) zn (own_after vs3 (.int (0 : Int32)) zn (0 : Int32)))), .val (.long ((zn - (own_after vs3 (.int (0 : Int32)) zn (own_after vs3 (.int (0 : Int32)) zn (0 : Int32)))).toInt64)), .second, .val (.ref x68), .unset, .unset, .unset] [])) _
          refine XS.aload X68.here hx rfl (hb hby at_202) rfl rfl ?_
          show Steps p.tables e below (T68.setTop (mkF m 204 #[.val (.int p0), .val (.int p1), .val (.int p2), .val (.int zn), .val (.ref ar3), .val (.ref b5), .val (.long ((zn - (0 : Int32)).toInt64)), .second, .val (.ref x33), .val (.int (own_after vs3 (.int (0 : Int32)) zn (0 : Int32))), .val (.long ((zn - (own_after vs3 (.int (0 : Int32)) zn (0 : Int32))).toInt64)), .second, .val (.ref x53), .val (.int (own_after vs3 (.int (0 : Int32)) zn (own_after vs3 (.int (0 : Int32)) zn (0 : Int32)))), .val (.long ((zn - (own_after vs3 (.int (0 : Int32)) zn (own_after vs3 (.int (0 : Int32)) zn (0 : Int32)))).toInt64)), .second, .val (.ref x68), .unset, .unset, .unset] [(.ref ar3)])) _
          refine XS.iload X68.here hx rfl (hb hby at_204) rfl ?_
          show Steps p.tables e below (T68.setTop (mkF m 206 #[.val (.int p0), .val (.int p1), .val (.int p2), .val (.int zn), .val (.ref ar3), .val (.ref b5), .val (.long ((zn - (0 : Int32)).toInt64)), .second, .val (.ref x33), .val (.int (own_after vs3 (.int (0 : Int32)) zn (0 : Int32))), .val (.long ((zn - (own_after vs3 (.int (0 : Int32)) zn (0 : Int32))).toInt64)), .second, .val (.ref x53), .val (.int (own_after vs3 (.int (0 : Int32)) zn (own_after vs3 (.int (0 : Int32)) zn (0 : Int32)))), .val (.long ((zn - (own_after vs3 (.int (0 : Int32)) zn (own_after vs3 (.int (0 : Int32)) zn (0 : Int32)))).toInt64)), .second, .val (.ref x68), .unset, .unset, .unset] [(.int (own_after vs3 (.int (0 : Int32)) zn (own_after vs3 (.int (0 : Int32)) zn (0 : Int32)))), (.ref ar3)])) _
          refine st71 _ ?_
          show Steps p.tables e below (T71.setTop (mkF m 209 #[.val (.int p0), .val (.int p1), .val (.int p2), .val (.int zn), .val (.ref ar3), .val (.ref b5), .val (.long ((zn - (0 : Int32)).toInt64)), .second, .val (.ref x33), .val (.int (own_after vs3 (.int (0 : Int32)) zn (0 : Int32))), .val (.long ((zn - (own_after vs3 (.int (0 : Int32)) zn (0 : Int32))).toInt64)), .second, .val (.ref x53), .val (.int (own_after vs3 (.int (0 : Int32)) zn (own_after vs3 (.int (0 : Int32)) zn (0 : Int32)))), .val (.long ((zn - (own_after vs3 (.int (0 : Int32)) zn (own_after vs3 (.int (0 : Int32)) zn (0 : Int32)))).toInt64)), .second, .val (.ref x68), .unset, .unset, .unset] [(.int (own_after vs3 (.int (0 : Int32)) zn (own_after vs3 (.int (0 : Int32)) zn (own_after vs3 (.int (0 : Int32)) zn (0 : Int32)))))])) _
          refine XS.istore X71.here hx rfl (hb hby at_209) rfl (l' := #[.val (.int p0), .val (.int p1), .val (.int p2), .val (.int zn), .val (.ref ar3), .val (.ref b5), .val (.long ((zn - (0 : Int32)).toInt64)), .second, .val (.ref x33), .val (.int (own_after vs3 (.int (0 : Int32)) zn (0 : Int32))), .val (.long ((zn - (own_after vs3 (.int (0 : Int32)) zn (0 : Int32))).toInt64)), .second, .val (.ref x53), .val (.int (own_after vs3 (.int (0 : Int32)) zn (own_after vs3 (.int (0 : Int32)) zn (0 : Int32)))), .val (.long ((zn - (own_after vs3 (.int (0 : Int32)) zn (own_after vs3 (.int (0 : Int32)) zn (0 : Int32)))).toInt64)), .second, .val (.ref x68), .val (.int (own_after vs3 (.int (0 : Int32)) zn (own_after vs3 (.int (0 : Int32)) zn (own_after vs3 (.int (0 : Int32)) zn (0 : Int32))))), .unset, .unset]) rfl ?_
          show Steps p.tables e below (T71.setTop (mkF m 211 #[.val (.int p0), .val (.int p1), .val (.int p2), .val (.int zn), .val (.ref ar3), .val (.ref b5), .val (.long ((zn - (0 : Int32)).toInt64)), .second, .val (.ref x33), .val (.int (own_after vs3 (.int (0 : Int32)) zn (0 : Int32))), .val (.long ((zn - (own_after vs3 (.int (0 : Int32)) zn (0 : Int32))).toInt64)), .second, .val (.ref x53), .val (.int (own_after vs3 (.int (0 : Int32)) zn (own_after vs3 (.int (0 : Int32)) zn (0 : Int32)))), .val (.long ((zn - (own_after vs3 (.int (0 : Int32)) zn (own_after vs3 (.int (0 : Int32)) zn (0 : Int32)))).toInt64)), .second, .val (.ref x68), .val (.int (own_after vs3 (.int (0 : Int32)) zn (own_after vs3 (.int (0 : Int32)) zn (own_after vs3 (.int (0 : Int32)) zn (0 : Int32))))), .unset, .unset] [])) _
          refine XS.aload X71.here hx rfl (hb hby at_211) rfl rfl ?_
          show Steps p.tables e below (T71.setTop (mkF m 213 #[.val (.int p0), .val (.int p1), .val (.int p2), .val (.int zn), .val (.ref ar3), .val (.ref b5), .val (.long ((zn - (0 : Int32)).toInt64)), .second, .val (.ref x33), .val (.int (own_after vs3 (.int (0 : Int32)) zn (0 : Int32))), .val (.long ((zn - (own_after vs3 (.int (0 : Int32)) zn (0 : Int32))).toInt64)), .second, .val (.ref x53), .val (.int (own_after vs3 (.int (0 : Int32)) zn (own_after vs3 (.int (0 : Int32)) zn (0 : Int32)))), .val (.long ((zn - (own_after vs3 (.int (0 : Int32)) zn (own_after vs3 (.int (0 : Int32)) zn (0 : Int32)))).toInt64)), .second, .val (.ref x68), .val (.int (own_after vs3 (.int (0 : Int32)) zn (own_after vs3 (.int (0 : Int32)) zn (own_after vs3 (.int (0 : Int32)) zn (0 : Int32))))), .unset, .unset] [(.ref b5)])) _
          refine st72.trans ?_
          show Steps p.tables e below (T72.setTop (mkF m 216 #[.val (.int p0), .val (.int p1), .val (.int p2), .val (.int zn), .val (.ref ar3), .val (.ref b5), .val (.long ((zn - (0 : Int32)).toInt64)), .second, .val (.ref x33), .val (.int (own_after vs3 (.int (0 : Int32)) zn (0 : Int32))), .val (.long ((zn - (own_after vs3 (.int (0 : Int32)) zn (0 : Int32))).toInt64)), .second, .val (.ref x53), .val (.int (own_after vs3 (.int (0 : Int32)) zn (own_after vs3 (.int (0 : Int32)) zn (0 : Int32)))), .val (.long ((zn - (own_after vs3 (.int (0 : Int32)) zn (own_after vs3 (.int (0 : Int32)) zn (0 : Int32)))).toInt64)), .second, .val (.ref x68), .val (.int (own_after vs3 (.int (0 : Int32)) zn (own_after vs3 (.int (0 : Int32)) zn (own_after vs3 (.int (0 : Int32)) zn (0 : Int32))))), .unset, .unset] [(.long ((zn - (own_after vs3 (.int (0 : Int32)) zn (own_after vs3 (.int (0 : Int32)) zn (own_after vs3 (.int (0 : Int32)) zn (0 : Int32))))).toInt64))])) _
          refine XS.lstore X72.here hx rfl (hb hby at_216) rfl (l' := #[.val (.int p0), .val (.int p1), .val (.int p2), .val (.int zn), .val (.ref ar3), .val (.ref b5), .val (.long ((zn - (0 : Int32)).toInt64)), .second, .val (.ref x33), .val (.int (own_after vs3 (.int (0 : Int32)) zn (0 : Int32))), .val (.long ((zn - (own_after vs3 (.int (0 : Int32)) zn (0 : Int32))).toInt64)), .second, .val (.ref x53), .val (.int (own_after vs3 (.int (0 : Int32)) zn (own_after vs3 (.int (0 : Int32)) zn (0 : Int32)))), .val (.long ((zn - (own_after vs3 (.int (0 : Int32)) zn (own_after vs3 (.int (0 : Int32)) zn (0 : Int32)))).toInt64)), .second, .val (.ref x68), .val (.int (own_after vs3 (.int (0 : Int32)) zn (own_after vs3 (.int (0 : Int32)) zn (own_after vs3 (.int (0 : Int32)) zn (0 : Int32))))), .val (.long ((zn - (own_after vs3 (.int (0 : Int32)) zn (own_after vs3 (.int (0 : Int32)) zn (own_after vs3 (.int (0 : Int32)) zn (0 : Int32))))).toInt64)), .second]) rfl ?_
          show Steps p.tables e below (T72.setTop (mkF m 218 #[.val (.int p0), .val (.int p1), .val (.int p2), .val (.int zn), .val (.ref ar3), .val (.ref b5), .val (.long ((zn - (0 : Int32)).toInt64)), .second, .val (.ref x33), .val (.int (own_after vs3 (.int (0 : Int32)) zn (0 : Int32))), .val (.long ((zn - (own_after vs3 (.int (0 : Int32)) zn (0 : Int32))).toInt64)), .second, .val (.ref x53), .val (.int (own_after vs3 (.int (0 : Int32)) zn (own_after vs3 (.int (0 : Int32)) zn (0 : Int32)))), .val (.long ((zn - (own_after vs3 (.int (0 : Int32)) zn (own_after vs3 (.int (0 : Int32)) zn (0 : Int32)))).toInt64)), .second, .val (.ref x68), .val (.int (own_after vs3 (.int (0 : Int32)) zn (own_after vs3 (.int (0 : Int32)) zn (own_after vs3 (.int (0 : Int32)) zn (0 : Int32))))), .val (.long ((zn - (own_after vs3 (.int (0 : Int32)) zn (own_after vs3 (.int (0 : Int32)) zn (own_after vs3 (.int (0 : Int32)) zn (0 : Int32))))).toInt64)), .second] [])) _
          refine XS.lload X72.here hx rfl (hb hby at_218) rfl ?_
          show Steps p.tables e below (T72.setTop (mkF m 220 #[.val (.int p0), .val (.int p1), .val (.int p2), .val (.int zn), .val (.ref ar3), .val (.ref b5), .val (.long ((zn - (0 : Int32)).toInt64)), .second, .val (.ref x33), .val (.int (own_after vs3 (.int (0 : Int32)) zn (0 : Int32))), .val (.long ((zn - (own_after vs3 (.int (0 : Int32)) zn (0 : Int32))).toInt64)), .second, .val (.ref x53), .val (.int (own_after vs3 (.int (0 : Int32)) zn (own_after vs3 (.int (0 : Int32)) zn (0 : Int32)))), .val (.long ((zn - (own_after vs3 (.int (0 : Int32)) zn (own_after vs3 (.int (0 : Int32)) zn (0 : Int32)))).toInt64)), .second, .val (.ref x68), .val (.int (own_after vs3 (.int (0 : Int32)) zn (own_after vs3 (.int (0 : Int32)) zn (own_after vs3 (.int (0 : Int32)) zn (0 : Int32))))), .val (.long ((zn - (own_after vs3 (.int (0 : Int32)) zn (own_after vs3 (.int (0 : Int32)) zn (own_after vs3 (.int (0 : Int32)) zn (0 : Int32))))).toInt64)), .second] [(.long ((zn - (own_after vs3 (.int (0 : Int32)) zn (own_after vs3 (.int (0 : Int32)) zn (own_after vs3 (.int (0 : Int32)) zn (0 : Int32))))).toInt64))])) _
          refine XS.iloadN X72.here hx rfl (hb hby at_220) rfl ?_
          show Steps p.tables e below (T72.setTop (mkF m 221 #[.val (.int p0), .val (.int p1), .val (.int p2), .val (.int zn), .val (.ref ar3), .val (.ref b5), .val (.long ((zn - (0 : Int32)).toInt64)), .second, .val (.ref x33), .val (.int (own_after vs3 (.int (0 : Int32)) zn (0 : Int32))), .val (.long ((zn - (own_after vs3 (.int (0 : Int32)) zn (0 : Int32))).toInt64)), .second, .val (.ref x53), .val (.int (own_after vs3 (.int (0 : Int32)) zn (own_after vs3 (.int (0 : Int32)) zn (0 : Int32)))), .val (.long ((zn - (own_after vs3 (.int (0 : Int32)) zn (own_after vs3 (.int (0 : Int32)) zn (0 : Int32)))).toInt64)), .second, .val (.ref x68), .val (.int (own_after vs3 (.int (0 : Int32)) zn (own_after vs3 (.int (0 : Int32)) zn (own_after vs3 (.int (0 : Int32)) zn (0 : Int32))))), .val (.long ((zn - (own_after vs3 (.int (0 : Int32)) zn (own_after vs3 (.int (0 : Int32)) zn (own_after vs3 (.int (0 : Int32)) zn (0 : Int32))))).toInt64)), .second] [(.int zn), (.long ((zn - (own_after vs3 (.int (0 : Int32)) zn (own_after vs3 (.int (0 : Int32)) zn (own_after vs3 (.int (0 : Int32)) zn (0 : Int32))))).toInt64))])) _
          refine XS.iload X72.here hx rfl (hb hby at_221) rfl ?_
          show Steps p.tables e below (T72.setTop (mkF m 223 #[.val (.int p0), .val (.int p1), .val (.int p2), .val (.int zn), .val (.ref ar3), .val (.ref b5), .val (.long ((zn - (0 : Int32)).toInt64)), .second, .val (.ref x33), .val (.int (own_after vs3 (.int (0 : Int32)) zn (0 : Int32))), .val (.long ((zn - (own_after vs3 (.int (0 : Int32)) zn (0 : Int32))).toInt64)), .second, .val (.ref x53), .val (.int (own_after vs3 (.int (0 : Int32)) zn (own_after vs3 (.int (0 : Int32)) zn (0 : Int32)))), .val (.long ((zn - (own_after vs3 (.int (0 : Int32)) zn (own_after vs3 (.int (0 : Int32)) zn (0 : Int32)))).toInt64)), .second, .val (.ref x68), .val (.int (own_after vs3 (.int (0 : Int32)) zn (own_after vs3 (.int (0 : Int32)) zn (own_after vs3 (.int (0 : Int32)) zn (0 : Int32))))), .val (.long ((zn - (own_after vs3 (.int (0 : Int32)) zn (own_after vs3 (.int (0 : Int32)) zn (own_after vs3 (.int (0 : Int32)) zn (0 : Int32))))).toInt64)), .second] [(.int (own_after vs3 (.int (0 : Int32)) zn (own_after vs3 (.int (0 : Int32)) zn (own_after vs3 (.int (0 : Int32)) zn (0 : Int32))))), (.int zn), (.long ((zn - (own_after vs3 (.int (0 : Int32)) zn (own_after vs3 (.int (0 : Int32)) zn (own_after vs3 (.int (0 : Int32)) zn (0 : Int32))))).toInt64))])) _
          refine XS.isub X72.here hx rfl (hb hby at_223) rfl ?_
          show Steps p.tables e below (T72.setTop (mkF m 224 #[.val (.int p0), .val (.int p1), .val (.int p2), .val (.int zn), .val (.ref ar3), .val (.ref b5), .val (.long ((zn - (0 : Int32)).toInt64)), .second, .val (.ref x33), .val (.int (own_after vs3 (.int (0 : Int32)) zn (0 : Int32))), .val (.long ((zn - (own_after vs3 (.int (0 : Int32)) zn (0 : Int32))).toInt64)), .second, .val (.ref x53), .val (.int (own_after vs3 (.int (0 : Int32)) zn (own_after vs3 (.int (0 : Int32)) zn (0 : Int32)))), .val (.long ((zn - (own_after vs3 (.int (0 : Int32)) zn (own_after vs3 (.int (0 : Int32)) zn (0 : Int32)))).toInt64)), .second, .val (.ref x68), .val (.int (own_after vs3 (.int (0 : Int32)) zn (own_after vs3 (.int (0 : Int32)) zn (own_after vs3 (.int (0 : Int32)) zn (0 : Int32))))), .val (.long ((zn - (own_after vs3 (.int (0 : Int32)) zn (own_after vs3 (.int (0 : Int32)) zn (own_after vs3 (.int (0 : Int32)) zn (0 : Int32))))).toInt64)), .second] [(.int (zn - (own_after vs3 (.int (0 : Int32)) zn (own_after vs3 (.int (0 : Int32)) zn (own_after vs3 (.int (0 : Int32)) zn (0 : Int32)))))), (.long ((zn - (own_after vs3 (.int (0 : Int32)) zn (own_after vs3 (.int (0 : Int32)) zn (own_after vs3 (.int (0 : Int32)) zn (0 : Int32))))).toInt64))])) _
          refine XS.i2l X72.here hx rfl (hb hby at_224) rfl ?_
          show Steps p.tables e below (T72.setTop (mkF m 225 #[.val (.int p0), .val (.int p1), .val (.int p2), .val (.int zn), .val (.ref ar3), .val (.ref b5), .val (.long ((zn - (0 : Int32)).toInt64)), .second, .val (.ref x33), .val (.int (own_after vs3 (.int (0 : Int32)) zn (0 : Int32))), .val (.long ((zn - (own_after vs3 (.int (0 : Int32)) zn (0 : Int32))).toInt64)), .second, .val (.ref x53), .val (.int (own_after vs3 (.int (0 : Int32)) zn (own_after vs3 (.int (0 : Int32)) zn (0 : Int32)))), .val (.long ((zn - (own_after vs3 (.int (0 : Int32)) zn (own_after vs3 (.int (0 : Int32)) zn (0 : Int32)))).toInt64)), .second, .val (.ref x68), .val (.int (own_after vs3 (.int (0 : Int32)) zn (own_after vs3 (.int (0 : Int32)) zn (own_after vs3 (.int (0 : Int32)) zn (0 : Int32))))), .val (.long ((zn - (own_after vs3 (.int (0 : Int32)) zn (own_after vs3 (.int (0 : Int32)) zn (own_after vs3 (.int (0 : Int32)) zn (0 : Int32))))).toInt64)), .second] [(.long ((zn - (own_after vs3 (.int (0 : Int32)) zn (own_after vs3 (.int (0 : Int32)) zn (own_after vs3 (.int (0 : Int32)) zn (0 : Int32))))).toInt64)), (.long ((zn - (own_after vs3 (.int (0 : Int32)) zn (own_after vs3 (.int (0 : Int32)) zn (own_after vs3 (.int (0 : Int32)) zn (0 : Int32))))).toInt64))])) _
          refine XS.lcmp X72.here hx rfl (hb hby at_225) rfl ?_
          show Steps p.tables e below (T72.setTop (mkF m 226 #[.val (.int p0), .val (.int p1), .val (.int p2), .val (.int zn), .val (.ref ar3), .val (.ref b5), .val (.long ((zn - (0 : Int32)).toInt64)), .second, .val (.ref x33), .val (.int (own_after vs3 (.int (0 : Int32)) zn (0 : Int32))), .val (.long ((zn - (own_after vs3 (.int (0 : Int32)) zn (0 : Int32))).toInt64)), .second, .val (.ref x53), .val (.int (own_after vs3 (.int (0 : Int32)) zn (own_after vs3 (.int (0 : Int32)) zn (0 : Int32)))), .val (.long ((zn - (own_after vs3 (.int (0 : Int32)) zn (own_after vs3 (.int (0 : Int32)) zn (0 : Int32)))).toInt64)), .second, .val (.ref x68), .val (.int (own_after vs3 (.int (0 : Int32)) zn (own_after vs3 (.int (0 : Int32)) zn (own_after vs3 (.int (0 : Int32)) zn (0 : Int32))))), .val (.long ((zn - (own_after vs3 (.int (0 : Int32)) zn (own_after vs3 (.int (0 : Int32)) zn (own_after vs3 (.int (0 : Int32)) zn (0 : Int32))))).toInt64)), .second] [(.int (lcmpW ((zn - (own_after vs3 (.int (0 : Int32)) zn (own_after vs3 (.int (0 : Int32)) zn (own_after vs3 (.int (0 : Int32)) zn (0 : Int32))))).toInt64) ((zn - (own_after vs3 (.int (0 : Int32)) zn (own_after vs3 (.int (0 : Int32)) zn (own_after vs3 (.int (0 : Int32)) zn (0 : Int32))))).toInt64)))])) _
          refine XS.ifNo X72.here hx rfl (hb hby at_226) rfl ((if0 _ _).trans (teq (own_lc _ : (lcmpW ((zn - (own_after vs3 (.int (0 : Int32)) zn (own_after vs3 (.int (0 : Int32)) zn (own_after vs3 (.int (0 : Int32)) zn (0 : Int32))))).toInt64) ((zn - (own_after vs3 (.int (0 : Int32)) zn (own_after vs3 (.int (0 : Int32)) zn (own_after vs3 (.int (0 : Int32)) zn (0 : Int32))))).toInt64)) = (0 : Int32))).2) ?_
          show Steps p.tables e below (T72.setTop (mkF m 229 #[.val (.int p0), .val (.int p1), .val (.int p2), .val (.int zn), .val (.ref ar3), .val (.ref b5), .val (.long ((zn - (0 : Int32)).toInt64)), .second, .val (.ref x33), .val (.int (own_after vs3 (.int (0 : Int32)) zn (0 : Int32))), .val (.long ((zn - (own_after vs3 (.int (0 : Int32)) zn (0 : Int32))).toInt64)), .second, .val (.ref x53), .val (.int (own_after vs3 (.int (0 : Int32)) zn (own_after vs3 (.int (0 : Int32)) zn (0 : Int32)))), .val (.long ((zn - (own_after vs3 (.int (0 : Int32)) zn (own_after vs3 (.int (0 : Int32)) zn (0 : Int32)))).toInt64)), .second, .val (.ref x68), .val (.int (own_after vs3 (.int (0 : Int32)) zn (own_after vs3 (.int (0 : Int32)) zn (own_after vs3 (.int (0 : Int32)) zn (0 : Int32))))), .val (.long ((zn - (own_after vs3 (.int (0 : Int32)) zn (own_after vs3 (.int (0 : Int32)) zn (own_after vs3 (.int (0 : Int32)) zn (0 : Int32))))).toInt64)), .second] [])) _
          refine XS.iconst X72.here hx rfl (hb hby at_229) ?_
          show Steps p.tables e below (T72.setTop (mkF m 230 #[.val (.int p0), .val (.int p1), .val (.int p2), .val (.int zn), .val (.ref ar3), .val (.ref b5), .val (.long ((zn - (0 : Int32)).toInt64)), .second, .val (.ref x33), .val (.int (own_after vs3 (.int (0 : Int32)) zn (0 : Int32))), .val (.long ((zn - (own_after vs3 (.int (0 : Int32)) zn (0 : Int32))).toInt64)), .second, .val (.ref x53), .val (.int (own_after vs3 (.int (0 : Int32)) zn (own_after vs3 (.int (0 : Int32)) zn (0 : Int32)))), .val (.long ((zn - (own_after vs3 (.int (0 : Int32)) zn (own_after vs3 (.int (0 : Int32)) zn (0 : Int32)))).toInt64)), .second, .val (.ref x68), .val (.int (own_after vs3 (.int (0 : Int32)) zn (own_after vs3 (.int (0 : Int32)) zn (own_after vs3 (.int (0 : Int32)) zn (0 : Int32))))), .val (.long ((zn - (own_after vs3 (.int (0 : Int32)) zn (own_after vs3 (.int (0 : Int32)) zn (own_after vs3 (.int (0 : Int32)) zn (0 : Int32))))).toInt64)), .second] [(.int (1 : Int32))])) _
          refine XS.goto X72.here hx rfl (pc0 := 230) (pc' := 234) rfl (hb hby at_230) (by decide) (by decide) ?_
          exact k
        obtain ⟨fs, hrq, hrun, hended, hW, hsame⟩ := X72.leave (v := some (.int (1 : Int32))) (fun h => by rw [Bd.returns] at h; cases h)
        refine ⟨_, _, pre73 _ ?_, hrun, hended, _, _, rfl, ?_, ⟨_, rfl⟩, hW, hsame.mono (by decide) (by decide)⟩
        · show Steps p.tables e below (T72.setTop (mkF m 234 #[.val (.int p0), .val (.int p1), .val (.int p2), .val (.int zn), .val (.ref ar3), .val (.ref b5), .val (.long ((zn - (0 : Int32)).toInt64)), .second, .val (.ref x33), .val (.int (own_after vs3 (.int (0 : Int32)) zn (0 : Int32))), .val (.long ((zn - (own_after vs3 (.int (0 : Int32)) zn (0 : Int32))).toInt64)), .second, .val (.ref x53), .val (.int (own_after vs3 (.int (0 : Int32)) zn (own_after vs3 (.int (0 : Int32)) zn (0 : Int32)))), .val (.long ((zn - (own_after vs3 (.int (0 : Int32)) zn (own_after vs3 (.int (0 : Int32)) zn (0 : Int32)))).toInt64)), .second, .val (.ref x68), .val (.int (own_after vs3 (.int (0 : Int32)) zn (own_after vs3 (.int (0 : Int32)) zn (own_after vs3 (.int (0 : Int32)) zn (0 : Int32))))), .val (.long ((zn - (own_after vs3 (.int (0 : Int32)) zn (own_after vs3 (.int (0 : Int32)) zn (own_after vs3 (.int (0 : Int32)) zn (0 : Int32))))).toInt64)), .second] [(.int (1 : Int32))])) _
          exact retN X72 hx (t := .boolean) Bd.returns (by simp) (hb hby at_234) hrq
        · show Q0 Z p0 p1 p2 ln kl h0 n0 _ T72.heap _
          rw [e72]
          exact ⟨rfl, N72⟩
set_option maxRecDepth 65536 in
set_option maxHeartbeats 40000000 in
theorem comes_1 {Post : Tables → Env → Array Value → State → Outcome → State → Prop} (hpost : ∀ tb e args s v u, (limb_1_1.after args s (.returned v) u = true ∧ limb_1_2.after args s (.returned v) u = true ∧ True) → FrameEnd s (.returned v) u (Jvm.fieldLocs frame_1_writes args s ++ Jvm.arrayLocs frame_1_arrays args s ++ Jvm.staticLocs frame_1_statics s) 24 128 → Post tb e args s (.returned v) u) :
    ArmFor flags0 classFile x code maxLocals ret World_1 tables_1 room_1 Calls_1 rest_1 Pre_1 Post := by
  intro l hfl _ _ p e ha hc hk s m args below hf hA hF happ hP
  obtain ⟨hcalls, hrest, hpre⟩ := hP
  obtain ⟨-, -, -, hnamed, -, -, -, hat⟩ := (Spec.applies_iff hf).mp happ
  obtain ⟨hg, hn⟩ := and_e (Cond.before_iff.mp (show (Jvm.Cond.and given_1 narrow_1).before args s = true from hpre))
  obtain ⟨gc, g0⟩ := and_e hg
  obtain ⟨ga0, g1⟩ := and_e g0
  obtain ⟨ga1, g2⟩ := and_e g1
  have ga2 := g2
  obtain ⟨w0, w1, w2, rfl⟩ : ∃ w0 w1 w2 : Value, args = #[w0, w1, w2] := by
    have hs : args.size = 3 := by simpa [Cond.value, given_1] using gc
    obtain ⟨L⟩ := args
    match L, hs with
    | [w0, w1, w2], _ => exact ⟨w0, w1, w2, rfl⟩
  have hw := fun d (hd : d ∈ tables_1) => atoms_spec (ws := Jvm.Cond.code x code maxLocals ret :: tables_1) hat d (List.mem_cons_of_mem _ hd)
  have hfit : Fit s := fun {y c} hc i hi => by
    obtain ⟨ha, rfl⟩ := Array.getElem?_eq_some_iff.mp hc
    have q := List.all_eq_true.mp ((Array.all_eq_true_iff_forall_mem.mp hF) _ (Array.getElem_mem ha)) i (List.mem_range.mpr hi)
    simpa [Array.getElem?_eq_getElem hi] using q
  obtain ⟨i0, ei0⟩ := is_v ga0
  obtain rfl : w0 = (.int i0) := Option.some.inj ei0
  obtain ⟨i1, ei1⟩ := is_v ga1
  obtain rfl : w1 = (.int i1) := Option.some.inj ei1
  obtain ⟨i2, ei2⟩ := is_v ga2
  obtain rfl : w2 = (.int i2) := Option.some.inj ei2
  obtain ⟨hx0, hx1⟩ := and_e hn
  obtain ⟨hx2, hx3⟩ := and_e hx1
  obtain ⟨ln, eln⟩ := arr_v hx0
  have S_none := Sta.start eln (Or.inr ⟨(hw _ (List.mem_of_getElem? (i := 8) rfl)), (hw _ (List.mem_of_getElem? (i := 16) rfl))⟩)
  obtain ⟨cln, Aln⟩ := Arr.start eln hx0
  have Vln := own_none hfit eln Aln hx3
  obtain ⟨n, o, h1, h2, h3, _, L, rfl, ⟨rfl, N⟩, hq⟩ := rm0 l s _ hw tables_1 i0 i1 i2 ln cln.cls s.heap s.heap.size (Nat.le_refl _) S_none Vln p e ha hc hk s m _ below hf ((Spec.applies_iff_loose hf).mp happ).1 ⟨rfl, State.Warmed39.refl s, rfl⟩ trivial
  refine ⟨n, _, h1, h2, h3, hpost _ _ _ _ _ _ ⟨Cond.after_iff.mpr rfl, Cond.after_iff.mpr (eq_i res_at (Term.int_eval (1)) rfl), trivial⟩ ⟨hq.1, hq.2.1, (hq.2.2.sift fun y hy => Or.inr (N y hy)).mono (by decide) (by decide)⟩⟩
theorem main_1_1 : Claimed_1_1 := comes_1 fun _ _ _ _ _ _ h hF => ⟨h.1, hF⟩
theorem main_1_2 : Claimed_1_2 := comes_1 fun _ _ _ _ _ _ h hF => ⟨h.2.1, hF⟩
end Jvm.Pilot.@@N@@
namespace Jvm.Pilot.@@N@@
open Jvm Jvm.ClassFile Sem Op Lib Jvm.Free Jvm.Stand Jvm.Pilot.@@N@@.Jvm.D
/-! MADE BY PROGRAM (witnessworld.py) out of the Statement's table words and the real class files: 12 classes; the members and pool entries that the words name. The judged class is class 1, her method 4. -/
namespace start1
open Jvm.ClassFile
def u (s : String) : CpInfo := .utf8 (stringToUtf16 s)
/-- a pool by its gaps: so many unusable entries, then the entry; so many at the end -/
def gap : Nat → List CpInfo → List CpInfo
  | 0, r => r
  | n + 1, r => .unusable :: gap n r
def poolList (es : List (Nat × CpInfo)) (last : Nat) : List CpInfo := es.foldr (fun e r => gap e.1 (e.2 :: r)) (gap last [])
def pool (es : List (Nat × CpInfo)) (last : Nat) : Array CpInfo := ⟨poolList es last⟩
def fileOf (pool : Array CpInfo) (this : Nat) (attrs : Array Attribute := #[]) (ms : Array MethodInfo := #[]) (fl : Nat := 33) (sup : Nat := 0) (ifs : Array Nat := #[]) (fds : Array FieldInfo := #[]) : ClassFile where
  minorVersion := 0
  majorVersion := 65
  constantPool := pool
  accessFlags := fl
  thisClass := this
  superClass := sup
  interfaces := ifs
  fields := fds
  methods := ms
  attributes := attrs
def plain (name : String) (sup : Option ClassId) : Class where
  name := name
  kind := .ordinary
  loader := none
  accessFlags := 33
  super := sup
  interfaces := #[]
  cf := none
  fields := #[]
  methods := #[]
  instanceTypes := #[]
  staticTypes := #[]
  resolved := #[]
  callSites := []
  init := .initialized
  statics := none
  mirror := none

def pool0 : Array CpInfo := pool [(5, u "<init>"), (0, u "()V"), (1, .class_ 10), (1, u "java/lang/Object"), (85, u "clone"), (0, u "()Ljava/lang/Object;")] 26

def k0c0 : Code := { maxStack := 0, maxLocals := 1, code := object_method_1_code, exceptionTable := #[], attributes := #[] }
def k0m0 : Method := { name := "<init>", desc := "()V", sig := { parameters := [], returnType := none }, accessFlags := 1, code := some k0c0 }
def k0m1 : Method := { name := "clone", desc := "()Ljava/lang/Object;", sig := { parameters := [], returnType := some (.object "java/lang/Object") }, accessFlags := 260, code := none }
/-- java/lang/Object -/
def k0 : Class := { plain "java/lang/Object" none with
  accessFlags := 33
  interfaces := #[]
  cf := some (fileOf pool0 8 #[] #[{ accessFlags := 1, nameIndex := 5, descriptorIndex := 6, attributes := #[] }, { accessFlags := 260, nameIndex := 96, descriptorIndex := 97, attributes := #[] }] 33 0 #[] #[])
  fields := #[]
  methods := #[k0m0, k0m1]
  instanceTypes := #[]
  staticTypes := #[]
  resolved := Array.replicate 124 none
  statics := none }

def pool1 : Array CpInfo := pool [(2, .class_ 4), (1, u "java/lang/Object"), (0, u "<init>"), (0, u "()V"), (0, .methodref 8 9), (0, .class_ 10), (0, .nameAndType 11 12), (0, u "quorumkeep/store/ReaderMostMessagesLeftPinLaw"), (0, u "pick"), (0, u "(III)B"), (0, .integer 2147483647), (0, .methodref 8 15), (0, .nameAndType 16 17), (0, u "make"), (0, u "(III)[B"), (0, .class_ 19), (0, u "quorumkeep/store/Messages$Reader"), (0, .methodref 18 21), (0, .nameAndType 5 22), (0, u "([B)V"), (0, .methodref 18 24), (0, .nameAndType 25 26), (0, u "mostMessagesLeft"), (0, u "()J"), (0, .methodref 18 28), (0, .nameAndType 29 30), (0, u "next"), (0, u "()[B"), (0, .methodref 8 32), (0, .nameAndType 33 34), (0, u "after"), (0, u "([BI)I"), (5, u "law"), (0, u "(III)Z")] 9

def k1m0 : Method := { name := "<init>", desc := "()V", sig := { parameters := [], returnType := none }, accessFlags := 2, code := none }
def k1c1 : Code := { maxStack := 3, maxLocals := 4, code := method_2_code, exceptionTable := #[], attributes := #[] }
def k1m1 : Method := { name := "pick", desc := "(III)B", sig := { parameters := [.int, .int, .int], returnType := some .byte }, accessFlags := 10, code := some k1c1 }
def k1c2 : Code := { maxStack := 5, maxLocals := 4, code := method_3_code, exceptionTable := #[], attributes := #[] }
def k1m2 : Method := { name := "make", desc := "(III)[B", sig := { parameters := [.int, .int, .int], returnType := some (.array .byte) }, accessFlags := 10, code := some k1c2 }
def k1c3 : Code := { maxStack := 2, maxLocals := 3, code := method_4_code, exceptionTable := #[], attributes := #[] }
def k1m3 : Method := { name := "after", desc := "([BI)I", sig := { parameters := [(.array .byte), .int], returnType := some .int }, accessFlags := 10, code := some k1c3 }
def k1c4 : Code := { maxStack := 5, maxLocals := 20, code := code, exceptionTable := #[], attributes := #[] }
def k1m4 : Method := { name := "law", desc := "(III)Z", sig := { parameters := [.int, .int, .int], returnType := some .boolean }, accessFlags := 9, code := some k1c4 }
/-- quorumkeep/store/ReaderMostMessagesLeftPinLaw -/
def k1 : Class := { plain "quorumkeep/store/ReaderMostMessagesLeftPinLaw" (some 0) with
  accessFlags := 49
  interfaces := #[]
  cf := some (fileOf pool1 8 #[] #[{ accessFlags := 2, nameIndex := 5, descriptorIndex := 6, attributes := #[] }, { accessFlags := 10, nameIndex := 11, descriptorIndex := 12, attributes := #[] }, { accessFlags := 10, nameIndex := 16, descriptorIndex := 17, attributes := #[] }, { accessFlags := 10, nameIndex := 33, descriptorIndex := 34, attributes := #[] }, { accessFlags := 9, nameIndex := 40, descriptorIndex := 41, attributes := #[] }] 49 2 #[] #[])
  fields := #[]
  methods := #[k1m0, k1m1, k1m2, k1m3, k1m4]
  instanceTypes := #[]
  staticTypes := #[]
  resolved := Array.replicate 51 none
  statics := none }

def pool2 : Array CpInfo := pool [(1, .class_ 2), (0, u "quorumkeep/store/Messages"), (3, .class_ 8), (1, u "quorumkeep/store/Messages$Reader"), (0, u "<init>"), (1, .methodref 12 13), (0, .class_ 14), (0, .nameAndType 9 15), (0, u "java/lang/Object"), (0, u "()V"), (0, .fieldref 6 17), (0, .nameAndType 18 19), (0, u "NONE"), (0, u "[B"), (0, .fieldref 6 21), (0, .nameAndType 22 19), (0, u "line"), (0, .fieldref 6 24), (0, .nameAndType 25 26), (0, u "in"), (0, u "Ljava/io/InputStream;"), (0, .fieldref 6 28), (0, .nameAndType 29 30), (0, u "length"), (0, u "J"), (0, .fieldref 6 32), (0, .nameAndType 33 34), (0, u "budget"), (0, u "Lquorumkeep/base/HeapBudget;"), (3, .class_ 40), (1, u "java/lang/Math"), (0, u "max"), (3, u "min"), (0, .fieldref 6 47), (0, .nameAndType 48 19), (0, u "buffer"), (0, .fieldref 6 50), (0, .nameAndType 51 52), (0, u "end"), (0, u "I"), (0, .fieldref 6 54), (0, .nameAndType 55 30), (0, u "read"), (0, .methodref 6 57), (0, .nameAndType 58 15), (0, u "release"), (0, .fieldref 6 60), (0, .nameAndType 61 52), (0, u "size"), (0, .integer 4194306), (2, .integer 65536), (0, .fieldref 6 67), (0, .nameAndType 68 52), (0, u "keepable"), (0, .fieldref 6 70), (0, .nameAndType 71 52), (0, u "start"), (0, .methodref 73 74), (0, .class_ 75), (0, .nameAndType 76 77), (0, u "java/util/Arrays"), (0, u "copyOfRange"), (0, u "([BII)[B"), (0, .methodref 6 79), (0, .nameAndType 80 81), (0, u "keep"), (0, u "(I)V"), (0, .methodref 6 83), (0, .nameAndType 84 85), (0, u "message"), (0, u "(I)[B"), (0, .methodref 6 87), (0, .nameAndType 88 89), (0, u "fill"), (0, u "()Z"), (0, .fieldref 6 91), (0, .nameAndType 92 93), (0, u "atEnd"), (0, u "Z"), (6, .methodref 101 102), (0, .class_ 103), (0, .nameAndType 104 105), (0, u "java/lang/System"), (0, u "arraycopy"), (0, u "(Ljava/lang/Object;ILjava/lang/Object;II)V"), (0, .methodref 38 107), (0, .nameAndType 45 108), (0, u "(II)I"), (5, .long 9223372036854775807), (1, .fieldref 6 117), (0, .nameAndType 118 52), (0, u "held"), (3, .methodref 6 123), (0, .nameAndType 124 81), (0, u "grow"), (0, .long 4194306), (5, .methodref 38 132), (0, .nameAndType 41 108), (0, .methodref 73 134), (0, .nameAndType 135 136), (0, u "copyOf"), (0, u "([BI)[B"), (3, u "KEPT_BYTES"), (1, u "READ_BYTES"), (4, u "([B)V"), (0, u "next"), (0, u "()[B"), (5, u "mostMessagesLeft"), (0, u "()J")] 6

def k2c0 : Code := { maxStack := 3, maxLocals := 2, code := prog_163_method_3_code, exceptionTable := #[], attributes := #[] }
def k2m0 : Method := { name := "<init>", desc := "([B)V", sig := { parameters := [(.array .byte)], returnType := none }, accessFlags := 1, code := some k2c0 }
def k2c1 : Code := { maxStack := 5, maxLocals := 3, code := prog_163_method_4_code, exceptionTable := #[], attributes := #[] }
def k2m1 : Method := { name := "next", desc := "()[B", sig := { parameters := [], returnType := some (.array .byte) }, accessFlags := 1, code := some k2c1 }
def k2c2 : Code := { maxStack := 4, maxLocals := 1, code := prog_163_method_6_code, exceptionTable := #[], attributes := #[] }
def k2m2 : Method := { name := "mostMessagesLeft", desc := "()J", sig := { parameters := [], returnType := some .long }, accessFlags := 1, code := some k2c2 }
def k2c3 : Code := { maxStack := 2, maxLocals := 1, code := prog_163_method_7_code, exceptionTable := #[], attributes := #[] }
def k2m3 : Method := { name := "release", desc := "()V", sig := { parameters := [], returnType := none }, accessFlags := 1, code := some k2c3 }
def k2c4 : Code := { maxStack := 5, maxLocals := 3, code := prog_163_method_8_code, exceptionTable := #[], attributes := #[] }
def k2m4 : Method := { name := "keep", desc := "(I)V", sig := { parameters := [.int], returnType := none }, accessFlags := 2, code := some k2c4 }
def k2c5 : Code := { maxStack := 8, maxLocals := 4, code := prog_163_method_9_code, exceptionTable := #[], attributes := #[] }
def k2m5 : Method := { name := "grow", desc := "(I)V", sig := { parameters := [.int], returnType := none }, accessFlags := 2, code := some k2c5 }
def k2c6 : Code := { maxStack := 2, maxLocals := 2, code := prog_163_method_10_code, exceptionTable := #[], attributes := #[] }
def k2m6 : Method := { name := "message", desc := "(I)[B", sig := { parameters := [.int], returnType := some (.array .byte) }, accessFlags := 2, code := some k2c6 }
def k2c7 : Code := { maxStack := 5, maxLocals := 2, code := prog_163_method_11_code, exceptionTable := #[], attributes := #[] }
def k2m7 : Method := { name := "fill", desc := "()Z", sig := { parameters := [], returnType := some .boolean }, accessFlags := 2, code := some k2c7 }
/-- quorumkeep/store/Messages$Reader -/
def k2 : Class := { plain "quorumkeep/store/Messages$Reader" (some 0) with
  accessFlags := 49
  interfaces := #[]
  cf := some (fileOf pool2 6 #[.nestHost 1] #[{ accessFlags := 1, nameIndex := 9, descriptorIndex := 147, attributes := #[] }, { accessFlags := 1, nameIndex := 148, descriptorIndex := 149, attributes := #[] }, { accessFlags := 1, nameIndex := 155, descriptorIndex := 156, attributes := #[] }, { accessFlags := 1, nameIndex := 58, descriptorIndex := 15, attributes := #[] }, { accessFlags := 2, nameIndex := 80, descriptorIndex := 81, attributes := #[] }, { accessFlags := 2, nameIndex := 124, descriptorIndex := 81, attributes := #[] }, { accessFlags := 2, nameIndex := 84, descriptorIndex := 85, attributes := #[] }, { accessFlags := 2, nameIndex := 88, descriptorIndex := 89, attributes := #[] }] 49 12 #[] #[{ accessFlags := 26, nameIndex := 140, descriptorIndex := 52, attributes := #[] }, { accessFlags := 26, nameIndex := 142, descriptorIndex := 52, attributes := #[] }, { accessFlags := 26, nameIndex := 18, descriptorIndex := 19, attributes := #[] }, { accessFlags := 18, nameIndex := 25, descriptorIndex := 26, attributes := #[] }, { accessFlags := 18, nameIndex := 29, descriptorIndex := 30, attributes := #[] }, { accessFlags := 18, nameIndex := 33, descriptorIndex := 34, attributes := #[] }, { accessFlags := 18, nameIndex := 48, descriptorIndex := 19, attributes := #[] }, { accessFlags := 2, nameIndex := 71, descriptorIndex := 52, attributes := #[] }, { accessFlags := 2, nameIndex := 51, descriptorIndex := 52, attributes := #[] }, { accessFlags := 2, nameIndex := 92, descriptorIndex := 93, attributes := #[] }, { accessFlags := 2, nameIndex := 55, descriptorIndex := 30, attributes := #[] }, { accessFlags := 2, nameIndex := 22, descriptorIndex := 19, attributes := #[] }, { accessFlags := 2, nameIndex := 61, descriptorIndex := 52, attributes := #[] }, { accessFlags := 2, nameIndex := 68, descriptorIndex := 52, attributes := #[] }, { accessFlags := 2, nameIndex := 118, descriptorIndex := 52, attributes := #[] }])
  fields := #[{ name := "KEPT_BYTES", type := .int, accessFlags := 26, slot := 0, constantValue := 0 }, { name := "READ_BYTES", type := .int, accessFlags := 26, slot := 1, constantValue := 0 }, { name := "NONE", type := (.array .byte), accessFlags := 26, slot := 2, constantValue := 0 }, { name := "in", type := (.object "java/io/InputStream"), accessFlags := 18, slot := 0, constantValue := 0 }, { name := "length", type := .long, accessFlags := 18, slot := 1, constantValue := 0 }, { name := "budget", type := (.object "quorumkeep/base/HeapBudget"), accessFlags := 18, slot := 2, constantValue := 0 }, { name := "buffer", type := (.array .byte), accessFlags := 18, slot := 3, constantValue := 0 }, { name := "start", type := .int, accessFlags := 2, slot := 4, constantValue := 0 }, { name := "end", type := .int, accessFlags := 2, slot := 5, constantValue := 0 }, { name := "atEnd", type := .boolean, accessFlags := 2, slot := 6, constantValue := 0 }, { name := "read", type := .long, accessFlags := 2, slot := 7, constantValue := 0 }, { name := "line", type := (.array .byte), accessFlags := 2, slot := 8, constantValue := 0 }, { name := "size", type := .int, accessFlags := 2, slot := 9, constantValue := 0 }, { name := "keepable", type := .int, accessFlags := 2, slot := 10, constantValue := 0 }, { name := "held", type := .int, accessFlags := 2, slot := 11, constantValue := 0 }]
  methods := #[k2m0, k2m1, k2m2, k2m3, k2m4, k2m5, k2m6, k2m7]
  instanceTypes := #[(.object "java/io/InputStream"), .long, (.object "quorumkeep/base/HeapBudget"), (.array .byte), .int, .int, .boolean, .long, (.array .byte), .int, .int, .int]
  staticTypes := #[.int, .int, (.array .byte)]
  resolved := Array.replicate 163 none
  statics := some 0 }

def pool3 : Array CpInfo := pool [(1, .class_ 2), (0, u "java/lang/Math"), (1, .class_ 6), (1, u "java/lang/Object"), (0, u "<init>"), (0, u "()V"), (89, .class_ 100), (1, u "java/lang/Math$RandomNumberGeneratorHolder"), (71, u "negativeZeroFloatBits"), (0, u "J"), (2, u "negativeZeroDoubleBits"), (21, u "max"), (2, u "min"), (43, u "$assertionsDisabled"), (0, u "Z"), (88, u "(II)I"), (2, u "twoToTheDoubleScaleDown"), (0, u "D"), (4, u "twoToTheDoubleScaleUp"), (9, u "E"), (3, u "PI"), (2, u "TAU"), (2, u "DEGREES_TO_RADIANS"), (0, u "RADIANS_TO_DEGREES")] 94

def k3m0 : Method := { name := "<init>", desc := "()V", sig := { parameters := [], returnType := none }, accessFlags := 2, code := none }
def k3c1 : Code := { maxStack := 2, maxLocals := 2, code := jdk_29_method_65_code, exceptionTable := #[], attributes := #[] }
def k3m1 : Method := { name := "max", desc := "(II)I", sig := { parameters := [.int, .int], returnType := some .int }, accessFlags := 9, code := some k3c1 }
def k3c2 : Code := { maxStack := 2, maxLocals := 2, code := jdk_29_method_69_code, exceptionTable := #[], attributes := #[] }
def k3m2 : Method := { name := "min", desc := "(II)I", sig := { parameters := [.int, .int], returnType := some .int }, accessFlags := 9, code := some k3c2 }
/-- java/lang/Math -/
def k3 : Class := { plain "java/lang/Math" (some 0) with
  accessFlags := 49
  interfaces := #[]
  cf := some (fileOf pool3 1 #[.nestMembers #[98]] #[{ accessFlags := 2, nameIndex := 7, descriptorIndex := 8, attributes := #[] }, { accessFlags := 9, nameIndex := 198, descriptorIndex := 335, attributes := #[] }, { accessFlags := 9, nameIndex := 201, descriptorIndex := 335, attributes := #[] }] 49 4 #[] #[{ accessFlags := 25, nameIndex := 354, descriptorIndex := 339, attributes := #[] }, { accessFlags := 25, nameIndex := 358, descriptorIndex := 339, attributes := #[] }, { accessFlags := 25, nameIndex := 361, descriptorIndex := 339, attributes := #[] }, { accessFlags := 26, nameIndex := 364, descriptorIndex := 339, attributes := #[] }, { accessFlags := 26, nameIndex := 365, descriptorIndex := 339, attributes := #[] }, { accessFlags := 26, nameIndex := 172, descriptorIndex := 173, attributes := #[] }, { accessFlags := 26, nameIndex := 176, descriptorIndex := 173, attributes := #[] }, { accessFlags := 8, nameIndex := 344, descriptorIndex := 339, attributes := #[] }, { accessFlags := 8, nameIndex := 338, descriptorIndex := 339, attributes := #[] }, { accessFlags := 4120, nameIndex := 245, descriptorIndex := 246, attributes := #[] }])
  fields := #[{ name := "E", type := .double, accessFlags := 25, slot := 0, constantValue := 0 }, { name := "PI", type := .double, accessFlags := 25, slot := 1, constantValue := 0 }, { name := "TAU", type := .double, accessFlags := 25, slot := 2, constantValue := 0 }, { name := "DEGREES_TO_RADIANS", type := .double, accessFlags := 26, slot := 3, constantValue := 0 }, { name := "RADIANS_TO_DEGREES", type := .double, accessFlags := 26, slot := 4, constantValue := 0 }, { name := "negativeZeroFloatBits", type := .long, accessFlags := 26, slot := 5, constantValue := 0 }, { name := "negativeZeroDoubleBits", type := .long, accessFlags := 26, slot := 6, constantValue := 0 }, { name := "twoToTheDoubleScaleUp", type := .double, accessFlags := 8, slot := 7, constantValue := 0 }, { name := "twoToTheDoubleScaleDown", type := .double, accessFlags := 8, slot := 8, constantValue := 0 }, { name := "$assertionsDisabled", type := .boolean, accessFlags := 4120, slot := 9, constantValue := 0 }]
  methods := #[k3m0, k3m1, k3m2]
  instanceTypes := #[]
  staticTypes := #[.double, .double, .double, .double, .double, .long, .long, .double, .double, .boolean]
  resolved := Array.replicate 460 none
  statics := none }

def pool4 : Array CpInfo := pool [(2, .class_ 4), (1, u "java/lang/Object"), (0, u "<init>"), (0, u "()V"), (7, .class_ 16), (1, u "java/util/Arrays"), (57, .class_ 76), (1, u "java/util/Arrays$NaturalOrder"), (32, u "()Ljava/lang/Object;"), (3, .class_ 115), (1, u "java/util/Arrays$LegacyMergeSort"), (1, u "Z"), (10, .nameAndType 129 109), (0, u "clone"), (9, u "copyOfRange"), (10, .methodref 151 152), (0, .class_ 153), (0, .nameAndType 154 155), (0, u "java/lang/System"), (0, u "arraycopy"), (0, u "(Ljava/lang/Object;ILjava/lang/Object;II)V"), (146, u "copyOf"), (1, .methodref 305 306), (0, .class_ 307), (0, .nameAndType 308 309), (0, u "java/lang/Math"), (0, u "min"), (0, u "(II)I"), (0, .methodref 311 128), (0, .class_ 312), (0, u "[B"), (26, .methodref 14 340), (0, .nameAndType 341 342), (0, u "copyOfRangeByte"), (0, u "([BII)[B"), (0, .methodref 14 344), (0, .nameAndType 345 346), (0, u "checkLength"), (0, u "(II)V"), (28, .class_ 376), (0, u "java/util/Arrays$ArrayList"), (68, u "$assertionsDisabled"), (269, u "MIN_ARRAY_SORT_GRAN"), (0, u "I"), (2, u "INSERTIONSORT_THRESHOLD"), (149, u "([BI)[B"), (105, .class_ 976), (0, u "java/util/Arrays$ArrayItr")] 52

def k4m0 : Method := { name := "<init>", desc := "()V", sig := { parameters := [], returnType := none }, accessFlags := 2, code := none }
def k4c1 : Code := { maxStack := 6, maxLocals := 3, code := jdk_65_method_121_code, exceptionTable := #[], attributes := #[] }
def k4m1 : Method := { name := "copyOf", desc := "([BI)[B", sig := { parameters := [(.array .byte), .int], returnType := some (.array .byte) }, accessFlags := 9, code := some k4c1 }
def k4c2 : Code := { maxStack := 4, maxLocals := 2, code := jdk_65_method_131_code, exceptionTable := #[], attributes := #[] }
def k4m2 : Method := { name := "checkLength", desc := "(II)V", sig := { parameters := [.int, .int], returnType := none }, accessFlags := 10, code := some k4c2 }
def k4c3 : Code := { maxStack := 3, maxLocals := 3, code := jdk_65_method_132_code, exceptionTable := #[], attributes := #[] }
def k4m3 : Method := { name := "copyOfRange", desc := "([BII)[B", sig := { parameters := [(.array .byte), .int, .int], returnType := some (.array .byte) }, accessFlags := 9, code := some k4c3 }
def k4c4 : Code := { maxStack := 6, maxLocals := 5, code := jdk_65_method_133_code, exceptionTable := #[], attributes := #[] }
def k4m4 : Method := { name := "copyOfRangeByte", desc := "([BII)[B", sig := { parameters := [(.array .byte), .int, .int], returnType := some (.array .byte) }, accessFlags := 10, code := some k4c4 }
/-- java/util/Arrays -/
def k4 : Class := { plain "java/util/Arrays" (some 0) with
  accessFlags := 49
  interfaces := #[]
  cf := some (fileOf pool4 14 #[.nestMembers #[975, 375, 113, 74]] #[{ accessFlags := 2, nameIndex := 5, descriptorIndex := 6, attributes := #[] }, { accessFlags := 9, nameIndex := 302, descriptorIndex := 869, attributes := #[] }, { accessFlags := 10, nameIndex := 345, descriptorIndex := 346, attributes := #[] }, { accessFlags := 9, nameIndex := 139, descriptorIndex := 342, attributes := #[] }, { accessFlags := 10, nameIndex := 341, descriptorIndex := 342, attributes := #[] }] 49 2 #[] #[{ accessFlags := 26, nameIndex := 715, descriptorIndex := 716, attributes := #[] }, { accessFlags := 26, nameIndex := 719, descriptorIndex := 716, attributes := #[] }, { accessFlags := 4120, nameIndex := 445, descriptorIndex := 117, attributes := #[] }])
  fields := #[{ name := "MIN_ARRAY_SORT_GRAN", type := .int, accessFlags := 26, slot := 0, constantValue := 0 }, { name := "INSERTIONSORT_THRESHOLD", type := .int, accessFlags := 26, slot := 1, constantValue := 0 }, { name := "$assertionsDisabled", type := .boolean, accessFlags := 4120, slot := 2, constantValue := 0 }]
  methods := #[k4m0, k4m1, k4m2, k4m3, k4m4]
  instanceTypes := #[]
  staticTypes := #[.int, .int, .boolean]
  resolved := Array.replicate 1029 none
  statics := none }

def pool5 : Array CpInfo := pool [(2, .class_ 4), (1, u "java/lang/Object"), (0, u "<init>"), (0, u "()V"), (1, .class_ 10), (1, u "java/lang/System"), (0, u "allowSecurityManager"), (0, u "I"), (16, u "cons"), (0, u "Ljava/io/Console;"), (77, .class_ 110), (1, u "java/lang/System$CallersHolder"), (43, u "initialErrStream"), (0, u "Ljava/io/PrintStream;"), (19, u "security"), (0, u "Ljava/lang/SecurityManager;"), (31, .class_ 209), (0, u "java/lang/System$1"), (7, u "props"), (0, u "Ljava/util/Properties;"), (2, u "lineSeparator"), (0, u "Ljava/lang/String;"), (96, .class_ 321), (1, u "java/lang/System$LoggerFinder"), (5, .class_ 328), (0, u "java/lang/System$Logger"), (67, u "err"), (2, u "out"), (91, u "notSupportedJnuEncoding"), (15, u "in"), (17, u "initialIn"), (0, u "Ljava/io/InputStream;"), (35, u "bootLayer"), (0, u "Ljava/lang/ModuleLayer;"), (99, .class_ 664), (0, u "java/lang/System$2"), (9, u "NEVER"), (2, u "MAYBE"), (49, u "arraycopy"), (0, u "(Ljava/lang/Object;ILjava/lang/Object;II)V"), (72, .class_ 802), (0, u "java/lang/System$Logger$Level")] 31

def k5m0 : Method := { name := "<init>", desc := "()V", sig := { parameters := [], returnType := none }, accessFlags := 2, code := none }
def k5m1 : Method := { name := "arraycopy", desc := "(Ljava/lang/Object;ILjava/lang/Object;II)V", sig := { parameters := [(.object "java/lang/Object"), .int, (.object "java/lang/Object"), .int, .int], returnType := none }, accessFlags := 265, code := none }
/-- java/lang/System -/
def k5 : Class := { plain "java/lang/System" (some 0) with
  accessFlags := 49
  interfaces := #[]
  cf := some (fileOf pool5 8 #[.nestMembers #[319, 327, 801, 108, 663, 208]] #[{ accessFlags := 2, nameIndex := 5, descriptorIndex := 6, attributes := #[] }, { accessFlags := 265, nameIndex := 727, descriptorIndex := 728, attributes := #[] }] 49 2 #[] #[{ accessFlags := 25, nameIndex := 507, descriptorIndex := 526, attributes := #[] }, { accessFlags := 25, nameIndex := 399, descriptorIndex := 155, attributes := #[] }, { accessFlags := 25, nameIndex := 396, descriptorIndex := 155, attributes := #[] }, { accessFlags := 10, nameIndex := 525, descriptorIndex := 526, attributes := #[] }, { accessFlags := 26, nameIndex := 674, descriptorIndex := 12, attributes := #[] }, { accessFlags := 26, nameIndex := 677, descriptorIndex := 12, attributes := #[] }, { accessFlags := 10, nameIndex := 11, descriptorIndex := 12, attributes := #[] }, { accessFlags := 74, nameIndex := 175, descriptorIndex := 176, attributes := #[] }, { accessFlags := 10, nameIndex := 491, descriptorIndex := 222, attributes := #[] }, { accessFlags := 74, nameIndex := 29, descriptorIndex := 30, attributes := #[] }, { accessFlags := 74, nameIndex := 154, descriptorIndex := 155, attributes := #[] }, { accessFlags := 10, nameIndex := 217, descriptorIndex := 218, attributes := #[] }, { accessFlags := 10, nameIndex := 221, descriptorIndex := 222, attributes := #[] }, { accessFlags := 8, nameIndex := 562, descriptorIndex := 563, attributes := #[] }])
  fields := #[{ name := "in", type := (.object "java/io/InputStream"), accessFlags := 25, slot := 0, constantValue := 0 }, { name := "out", type := (.object "java/io/PrintStream"), accessFlags := 25, slot := 1, constantValue := 0 }, { name := "err", type := (.object "java/io/PrintStream"), accessFlags := 25, slot := 2, constantValue := 0 }, { name := "initialIn", type := (.object "java/io/InputStream"), accessFlags := 10, slot := 3, constantValue := 0 }, { name := "NEVER", type := .int, accessFlags := 26, slot := 4, constantValue := 0 }, { name := "MAYBE", type := .int, accessFlags := 26, slot := 5, constantValue := 0 }, { name := "allowSecurityManager", type := .int, accessFlags := 10, slot := 6, constantValue := 0 }, { name := "security", type := (.object "java/lang/SecurityManager"), accessFlags := 74, slot := 7, constantValue := 0 }, { name := "notSupportedJnuEncoding", type := (.object "java/lang/String"), accessFlags := 10, slot := 8, constantValue := 0 }, { name := "cons", type := (.object "java/io/Console"), accessFlags := 74, slot := 9, constantValue := 0 }, { name := "initialErrStream", type := (.object "java/io/PrintStream"), accessFlags := 74, slot := 10, constantValue := 0 }, { name := "props", type := (.object "java/util/Properties"), accessFlags := 10, slot := 11, constantValue := 0 }, { name := "lineSeparator", type := (.object "java/lang/String"), accessFlags := 10, slot := 12, constantValue := 0 }, { name := "bootLayer", type := (.object "java/lang/ModuleLayer"), accessFlags := 8, slot := 13, constantValue := 0 }]
  methods := #[k5m0, k5m1]
  instanceTypes := #[]
  staticTypes := #[(.object "java/io/InputStream"), (.object "java/io/PrintStream"), (.object "java/io/PrintStream"), (.object "java/io/InputStream"), .int, .int, .int, (.object "java/lang/SecurityManager"), (.object "java/lang/String"), (.object "java/io/Console"), (.object "java/io/PrintStream"), (.object "java/util/Properties"), (.object "java/lang/String"), (.object "java/lang/ModuleLayer")]
  resolved := Array.replicate 834 none
  statics := none }

def pool6 : Array CpInfo := pool [(1, .class_ 2), (0, u "java/lang/Cloneable"), (0, .class_ 4), (0, u "java/lang/Object")] 2

/-- java/lang/Cloneable -/
def k6 : Class := { plain "java/lang/Cloneable" (some 0) with
  accessFlags := 1537
  interfaces := #[]
  cf := some (fileOf pool6 1 #[] #[] 1537 3 #[] #[])
  fields := #[]
  methods := #[]
  instanceTypes := #[]
  staticTypes := #[]
  resolved := Array.replicate 7 none
  statics := none }

def pool7 : Array CpInfo := pool [(1, u "java/io/Serializable"), (0, .class_ 1), (0, u "java/lang/Object"), (0, .class_ 3)] 3

/-- java/io/Serializable -/
def k7 : Class := { plain "java/io/Serializable" (some 0) with
  accessFlags := 1537
  interfaces := #[]
  cf := some (fileOf pool7 2 #[] #[] 1537 4 #[] #[])
  fields := #[]
  methods := #[]
  instanceTypes := #[]
  staticTypes := #[]
  resolved := Array.replicate 8 none
  statics := none }

/-- the primitive byte -/
def k8 : Class := { plain "byte" none with kind := .primitive 'B', accessFlags := 0x411 }
/-- [B -/
def k9 : Class := { plain "[B" (some 0) with kind := .array 8 .byte, interfaces := #[6, 7], accessFlags := 1041 }

/-- the primitive int -/
def k10 : Class := { plain "int" none with kind := .primitive 'I', accessFlags := 0x411 }
/-- [I -/
def k11 : Class := { plain "[I" (some 0) with kind := .array 10 .int, interfaces := #[6, 7], accessFlags := 1041 }

def heap : Heap := #[{ cls := 2, slots := #[.int 0, .int 0, .ref 1], vm := .statics 2 },
  { cls := 9, slots := #[], vm := .none }]
def classes : Array Class := #[k0, k1, k2, k3, k4, k5, k6, k7, k8, k9, k10, k11]
def interned : List (Array UInt16 × Addr) := []
def slotsUsed : Nat := 3
def theMethod : MethodId := ⟨1, 4⟩
def args0 : Array Value := #[.int 4, .int 5, .int 6]
def aboutOver (below : List Frame) : State where
  vm := { classes := classes, interned := interned.toArray }
  heap := heap
  slotsUsed := slotsUsed
  threads := #[{ frames := .invoking theMethod args0 :: below }]
def below0 : List Frame := [.native { method := ⟨0, 0⟩, args := #[] }]
def about1 : State := aboutOver below0
def p0 : Program := .bare "" "" ""
def e0 : Env := launch0.env 0 0 0
theorem w_frames : about1.frames = Frame.invoking theMethod args0 :: below0 := rfl
set_option maxRecDepth 65536 in
theorem w_args : argsFit about1.vm theMethod args0 = true := by decide +kernel
set_option maxRecDepth 65536 in
theorem w_heap : heapFits about1 = true := by decide +kernel
set_option maxRecDepth 65536 in
theorem w_runnable : about1.curStatus? = some .runnable := by decide +kernel
set_option maxRecDepth 65536 in
theorem w_alone : about1.alone = true := by decide +kernel
set_option maxRecDepth 65536 in
theorem w_named : about1.methodNamed? x = some theMethod := by decide +kernel
set_option maxRecDepth 65536 in
theorem w_hears : about1.hears theMethod below0 = true := by decide +kernel
set_option maxRecDepth 65536 in
theorem w_ripe : about1.ripe theMethod args0 below0 = true := by decide +kernel
theorem w_running : about1.status = .running := rfl
set_option maxRecDepth 65536 in
theorem w_room : about1.hasRoom e0.platform room_1 = true :=
  launch0.hasRoom_least _ room_1 (by decide +kernel) (by decide +kernel) (by decide +kernel) (by decide +kernel) (by decide +kernel) (by decide +kernel)
theorem allAtoms_all (ts : List Jvm.Cond) (a : Array Jvm.Value) (st : Jvm.State) : (allAtoms ts).before a st = ts.all (fun c => c.before a st) := by
  induction ts with
  | nil => rfl
  | cons c t ih =>
    show (Jvm.Cond.and c (allAtoms t)).before a st = _
    rw [Jvm.Cond.before_and, ih, List.all_cons]
def words1 : List Jvm.Cond := Jvm.Cond.code x code maxLocals ret :: tables_1
/-- a 'code' word, met by the world's own term for the bytes: nothing is compared byte by byte -/
theorem code_word {y : MethodName} {bytes : ByteArray} {mx : Nat} {rt : Option FieldType} {a : Array Value} {s : State} {m : MethodId} {meth : Method} {c : Code} (h1 : s.methodNamed? y = some m) (h2 : s.vm.method? m = some meth) (h3 : meth.code = some c) (h4 : c.code = bytes)
    (h5 : (c.maxLocals == mx && c.exceptionTable.isEmpty && decide (c.maxStack ≤ mostOperands) && decide (meth.sig.returnType = rt) && !meth.locks && decide (parseMethodDescriptor y.desc = some meth.sig)) = true) : (Jvm.Cond.code y bytes mx rt).before a s = true := by
  simp only [Bool.and_eq_true, beq_iff_eq, Bool.not_eq_true', decide_eq_true_eq] at h5
  obtain ⟨⟨⟨⟨⟨g1, g2⟩, g3⟩, g4⟩, g5⟩, g6⟩ := h5
  simp [Cond.before, Cond.holds, Cond.value, h1, h2, h3, h4, g1, g2, g3, g4, g5, g6]
def isCode : Jvm.Cond → Bool
  | .code _ _ _ _ => true
  | _ => false
theorem all_split {L : List Jvm.Cond} {P : Jvm.Cond → Bool} (h1 : L.all (fun c => isCode c || P c) = true) (h2 : ∀ c ∈ L.filter isCode, P c = true) : L.all P = true := by
  refine List.all_eq_true.mpr fun c hc => ?_
  have h := List.all_eq_true.mp h1 c hc
  rcases Bool.eq_false_or_eq_true (isCode c) with hi | hi
  · exact h2 c (List.mem_filter.mpr ⟨hc, hi⟩)
  · simpa [hi] using h
set_option maxRecDepth 65536 in
theorem w_c0 : (Jvm.Cond.code x code maxLocals ret).before args0 about1 = true := code_word (m := ⟨1, 4⟩) (meth := k1m4) (c := k1c4) (by decide +kernel) rfl rfl rfl (by decide +kernel)
set_option maxRecDepth 65536 in
theorem w_c1 : (Jvm.Cond.code ({ cls := "quorumkeep/store/ReaderMostMessagesLeftPinLaw", name := "make", desc := "(III)[B" } : Jvm.MethodName) method_3_code (4 : Nat) (Option.some (Jvm.ClassFile.FieldType.array Jvm.ClassFile.FieldType.byte))).before args0 about1 = true := code_word (m := ⟨1, 2⟩) (meth := k1m2) (c := k1c2) (by decide +kernel) rfl rfl rfl (by decide +kernel)
set_option maxRecDepth 65536 in
theorem w_c2 : (Jvm.Cond.code ({ cls := "quorumkeep/store/Messages$Reader", name := "<init>", desc := "([B)V" } : Jvm.MethodName) prog_163_method_3_code (2 : Nat) (Option.none : Option Jvm.ClassFile.FieldType)).before args0 about1 = true := code_word (m := ⟨2, 0⟩) (meth := k2m0) (c := k2c0) (by decide +kernel) rfl rfl rfl (by decide +kernel)
set_option maxRecDepth 65536 in
theorem w_c3 : (Jvm.Cond.code ({ cls := "java/lang/Object", name := "<init>", desc := "()V" } : Jvm.MethodName) object_method_1_code (1 : Nat) (Option.none : Option Jvm.ClassFile.FieldType)).before args0 about1 = true := code_word (m := ⟨0, 0⟩) (meth := k0m0) (c := k0c0) (by decide +kernel) rfl rfl rfl (by decide +kernel)
set_option maxRecDepth 65536 in
theorem w_c4 : (Jvm.Cond.code ({ cls := "quorumkeep/store/Messages$Reader", name := "mostMessagesLeft", desc := "()J" } : Jvm.MethodName) prog_163_method_6_code (1 : Nat) (Option.some Jvm.ClassFile.FieldType.long)).before args0 about1 = true := code_word (m := ⟨2, 2⟩) (meth := k2m2) (c := k2c2) (by decide +kernel) rfl rfl rfl (by decide +kernel)
set_option maxRecDepth 65536 in
theorem w_c5 : (Jvm.Cond.code ({ cls := "quorumkeep/store/Messages$Reader", name := "next", desc := "()[B" } : Jvm.MethodName) prog_163_method_4_code (3 : Nat) (Option.some (Jvm.ClassFile.FieldType.array Jvm.ClassFile.FieldType.byte))).before args0 about1 = true := code_word (m := ⟨2, 1⟩) (meth := k2m1) (c := k2c1) (by decide +kernel) rfl rfl rfl (by decide +kernel)
set_option maxRecDepth 65536 in
theorem w_c6 : (Jvm.Cond.code ({ cls := "quorumkeep/store/Messages$Reader", name := "release", desc := "()V" } : Jvm.MethodName) prog_163_method_7_code (1 : Nat) (Option.none : Option Jvm.ClassFile.FieldType)).before args0 about1 = true := code_word (m := ⟨2, 3⟩) (meth := k2m3) (c := k2c3) (by decide +kernel) rfl rfl rfl (by decide +kernel)
set_option maxRecDepth 65536 in
theorem w_c7 : (Jvm.Cond.code ({ cls := "quorumkeep/store/Messages$Reader", name := "keep", desc := "(I)V" } : Jvm.MethodName) prog_163_method_8_code (3 : Nat) (Option.none : Option Jvm.ClassFile.FieldType)).before args0 about1 = true := code_word (m := ⟨2, 4⟩) (meth := k2m4) (c := k2c4) (by decide +kernel) rfl rfl rfl (by decide +kernel)
set_option maxRecDepth 65536 in
theorem w_c8 : (Jvm.Cond.code ({ cls := "java/lang/Math", name := "min", desc := "(II)I" } : Jvm.MethodName) jdk_29_method_69_code (2 : Nat) (Option.some Jvm.ClassFile.FieldType.int)).before args0 about1 = true := code_word (m := ⟨3, 2⟩) (meth := k3m2) (c := k3c2) (by decide +kernel) rfl rfl rfl (by decide +kernel)
set_option maxRecDepth 65536 in
theorem w_c9 : (Jvm.Cond.code ({ cls := "quorumkeep/store/Messages$Reader", name := "fill", desc := "()Z" } : Jvm.MethodName) prog_163_method_11_code (2 : Nat) (Option.some Jvm.ClassFile.FieldType.boolean)).before args0 about1 = true := code_word (m := ⟨2, 7⟩) (meth := k2m7) (c := k2c7) (by decide +kernel) rfl rfl rfl (by decide +kernel)
set_option maxRecDepth 65536 in
theorem w_c10 : (Jvm.Cond.code ({ cls := "quorumkeep/store/ReaderMostMessagesLeftPinLaw", name := "after", desc := "([BI)I" } : Jvm.MethodName) method_4_code (3 : Nat) (Option.some Jvm.ClassFile.FieldType.int)).before args0 about1 = true := code_word (m := ⟨1, 3⟩) (meth := k1m3) (c := k1c3) (by decide +kernel) rfl rfl rfl (by decide +kernel)
set_option maxRecDepth 65536 in
theorem w_c11 : (Jvm.Cond.code ({ cls := "quorumkeep/store/ReaderMostMessagesLeftPinLaw", name := "pick", desc := "(III)B" } : Jvm.MethodName) method_2_code (4 : Nat) (Option.some Jvm.ClassFile.FieldType.byte)).before args0 about1 = true := code_word (m := ⟨1, 1⟩) (meth := k1m1) (c := k1c1) (by decide +kernel) rfl rfl rfl (by decide +kernel)
set_option maxRecDepth 65536 in
theorem w_c12 : (Jvm.Cond.code ({ cls := "java/util/Arrays", name := "copyOfRange", desc := "([BII)[B" } : Jvm.MethodName) jdk_65_method_132_code (3 : Nat) (Option.some (Jvm.ClassFile.FieldType.array Jvm.ClassFile.FieldType.byte))).before args0 about1 = true := code_word (m := ⟨4, 3⟩) (meth := k4m3) (c := k4c3) (by decide +kernel) rfl rfl rfl (by decide +kernel)
set_option maxRecDepth 65536 in
theorem w_c13 : (Jvm.Cond.code ({ cls := "java/util/Arrays", name := "copyOfRangeByte", desc := "([BII)[B" } : Jvm.MethodName) jdk_65_method_133_code (5 : Nat) (Option.some (Jvm.ClassFile.FieldType.array Jvm.ClassFile.FieldType.byte))).before args0 about1 = true := code_word (m := ⟨4, 4⟩) (meth := k4m4) (c := k4c4) (by decide +kernel) rfl rfl rfl (by decide +kernel)
set_option maxRecDepth 65536 in
theorem w_c14 : (Jvm.Cond.code ({ cls := "java/util/Arrays", name := "checkLength", desc := "(II)V" } : Jvm.MethodName) jdk_65_method_131_code (2 : Nat) (Option.none : Option Jvm.ClassFile.FieldType)).before args0 about1 = true := code_word (m := ⟨4, 2⟩) (meth := k4m2) (c := k4c2) (by decide +kernel) rfl rfl rfl (by decide +kernel)
set_option maxRecDepth 65536 in
theorem w_c15 : (Jvm.Cond.code ({ cls := "quorumkeep/store/Messages$Reader", name := "grow", desc := "(I)V" } : Jvm.MethodName) prog_163_method_9_code (4 : Nat) (Option.none : Option Jvm.ClassFile.FieldType)).before args0 about1 = true := code_word (m := ⟨2, 5⟩) (meth := k2m5) (c := k2c5) (by decide +kernel) rfl rfl rfl (by decide +kernel)
set_option maxRecDepth 65536 in
theorem w_c16 : (Jvm.Cond.code ({ cls := "java/lang/Math", name := "max", desc := "(II)I" } : Jvm.MethodName) jdk_29_method_65_code (2 : Nat) (Option.some Jvm.ClassFile.FieldType.int)).before args0 about1 = true := code_word (m := ⟨3, 1⟩) (meth := k3m1) (c := k3c1) (by decide +kernel) rfl rfl rfl (by decide +kernel)
set_option maxRecDepth 65536 in
theorem w_c17 : (Jvm.Cond.code ({ cls := "java/util/Arrays", name := "copyOf", desc := "([BI)[B" } : Jvm.MethodName) jdk_65_method_121_code (3 : Nat) (Option.some (Jvm.ClassFile.FieldType.array Jvm.ClassFile.FieldType.byte))).before args0 about1 = true := code_word (m := ⟨4, 1⟩) (meth := k4m1) (c := k4c1) (by decide +kernel) rfl rfl rfl (by decide +kernel)
set_option maxRecDepth 65536 in
theorem w_c18 : (Jvm.Cond.code ({ cls := "quorumkeep/store/Messages$Reader", name := "message", desc := "(I)[B" } : Jvm.MethodName) prog_163_method_10_code (2 : Nat) (Option.some (Jvm.ClassFile.FieldType.array Jvm.ClassFile.FieldType.byte))).before args0 about1 = true := code_word (m := ⟨2, 6⟩) (meth := k2m6) (c := k2c6) (by decide +kernel) rfl rfl rfl (by decide +kernel)
def codes1 : List Jvm.Cond := [Jvm.Cond.code x code maxLocals ret, Jvm.Cond.code ({ cls := "quorumkeep/store/ReaderMostMessagesLeftPinLaw", name := "make", desc := "(III)[B" } : Jvm.MethodName) method_3_code (4 : Nat) (Option.some (Jvm.ClassFile.FieldType.array Jvm.ClassFile.FieldType.byte)), Jvm.Cond.code ({ cls := "quorumkeep/store/Messages$Reader", name := "<init>", desc := "([B)V" } : Jvm.MethodName) prog_163_method_3_code (2 : Nat) (Option.none : Option Jvm.ClassFile.FieldType), Jvm.Cond.code ({ cls := "java/lang/Object", name := "<init>", desc := "()V" } : Jvm.MethodName) object_method_1_code (1 : Nat) (Option.none : Option Jvm.ClassFile.FieldType), Jvm.Cond.code ({ cls := "quorumkeep/store/Messages$Reader", name := "mostMessagesLeft", desc := "()J" } : Jvm.MethodName) prog_163_method_6_code (1 : Nat) (Option.some Jvm.ClassFile.FieldType.long), Jvm.Cond.code ({ cls := "quorumkeep/store/Messages$Reader", name := "next", desc := "()[B" } : Jvm.MethodName) prog_163_method_4_code (3 : Nat) (Option.some (Jvm.ClassFile.FieldType.array Jvm.ClassFile.FieldType.byte)), Jvm.Cond.code ({ cls := "quorumkeep/store/Messages$Reader", name := "release", desc := "()V" } : Jvm.MethodName) prog_163_method_7_code (1 : Nat) (Option.none : Option Jvm.ClassFile.FieldType), Jvm.Cond.code ({ cls := "quorumkeep/store/Messages$Reader", name := "keep", desc := "(I)V" } : Jvm.MethodName) prog_163_method_8_code (3 : Nat) (Option.none : Option Jvm.ClassFile.FieldType), Jvm.Cond.code ({ cls := "java/lang/Math", name := "min", desc := "(II)I" } : Jvm.MethodName) jdk_29_method_69_code (2 : Nat) (Option.some Jvm.ClassFile.FieldType.int), Jvm.Cond.code ({ cls := "quorumkeep/store/Messages$Reader", name := "fill", desc := "()Z" } : Jvm.MethodName) prog_163_method_11_code (2 : Nat) (Option.some Jvm.ClassFile.FieldType.boolean), Jvm.Cond.code ({ cls := "quorumkeep/store/ReaderMostMessagesLeftPinLaw", name := "after", desc := "([BI)I" } : Jvm.MethodName) method_4_code (3 : Nat) (Option.some Jvm.ClassFile.FieldType.int), Jvm.Cond.code ({ cls := "quorumkeep/store/ReaderMostMessagesLeftPinLaw", name := "pick", desc := "(III)B" } : Jvm.MethodName) method_2_code (4 : Nat) (Option.some Jvm.ClassFile.FieldType.byte), Jvm.Cond.code ({ cls := "java/util/Arrays", name := "copyOfRange", desc := "([BII)[B" } : Jvm.MethodName) jdk_65_method_132_code (3 : Nat) (Option.some (Jvm.ClassFile.FieldType.array Jvm.ClassFile.FieldType.byte)), Jvm.Cond.code ({ cls := "java/util/Arrays", name := "copyOfRangeByte", desc := "([BII)[B" } : Jvm.MethodName) jdk_65_method_133_code (5 : Nat) (Option.some (Jvm.ClassFile.FieldType.array Jvm.ClassFile.FieldType.byte)), Jvm.Cond.code ({ cls := "java/util/Arrays", name := "checkLength", desc := "(II)V" } : Jvm.MethodName) jdk_65_method_131_code (2 : Nat) (Option.none : Option Jvm.ClassFile.FieldType), Jvm.Cond.code ({ cls := "quorumkeep/store/Messages$Reader", name := "grow", desc := "(I)V" } : Jvm.MethodName) prog_163_method_9_code (4 : Nat) (Option.none : Option Jvm.ClassFile.FieldType), Jvm.Cond.code ({ cls := "java/lang/Math", name := "max", desc := "(II)I" } : Jvm.MethodName) jdk_29_method_65_code (2 : Nat) (Option.some Jvm.ClassFile.FieldType.int), Jvm.Cond.code ({ cls := "java/util/Arrays", name := "copyOf", desc := "([BI)[B" } : Jvm.MethodName) jdk_65_method_121_code (3 : Nat) (Option.some (Jvm.ClassFile.FieldType.array Jvm.ClassFile.FieldType.byte)), Jvm.Cond.code ({ cls := "quorumkeep/store/Messages$Reader", name := "message", desc := "(I)[B" } : Jvm.MethodName) prog_163_method_10_code (2 : Nat) (Option.some (Jvm.ClassFile.FieldType.array Jvm.ClassFile.FieldType.byte))]
set_option maxRecDepth 65536 in
theorem codes_eq : words1.filter isCode = codes1 := rfl
theorem w_codes : ∀ c ∈ words1.filter isCode, c.before args0 about1 = true := by
  rw [codes_eq]
  intro c hc
  simp only [codes1, List.mem_cons, List.not_mem_nil, or_false] at hc
  rcases hc with rfl | rfl | rfl | rfl | rfl | rfl | rfl | rfl | rfl | rfl | rfl | rfl | rfl | rfl | rfl | rfl | rfl | rfl | rfl
  · exact w_c0
  · exact w_c1
  · exact w_c2
  · exact w_c3
  · exact w_c4
  · exact w_c5
  · exact w_c6
  · exact w_c7
  · exact w_c8
  · exact w_c9
  · exact w_c10
  · exact w_c11
  · exact w_c12
  · exact w_c13
  · exact w_c14
  · exact w_c15
  · exact w_c16
  · exact w_c17
  · exact w_c18
set_option maxRecDepth 65536 in
theorem w_t1 : (words1.take 24).all (fun c => isCode c || c.before args0 about1) = true := by decide +kernel
set_option maxRecDepth 65536 in
theorem w_t2 : ((words1.drop 24).take 24).all (fun c => isCode c || c.before args0 about1) = true := by decide +kernel
set_option maxRecDepth 65536 in
theorem w_t3 : (((words1.drop 24).drop 24).take 24).all (fun c => isCode c || c.before args0 about1) = true := by decide +kernel
set_option maxRecDepth 65536 in
theorem w_t4 : ((((words1.drop 24).drop 24).drop 24).take 24).all (fun c => isCode c || c.before args0 about1) = true := by decide +kernel
set_option maxRecDepth 65536 in
theorem w_t5 : ((((words1.drop 24).drop 24).drop 24).drop 24).all (fun c => isCode c || c.before args0 about1) = true := by decide +kernel
theorem w_tables : (allAtoms (Jvm.Cond.code x code maxLocals ret :: tables_1)).before args0 about1 = true := by
  rw [allAtoms_all]
  show words1.all (fun c => c.before args0 about1) = true
  refine all_split ?_ w_codes
  rw [← List.take_append_drop 24 words1, List.all_append, w_t1, ← List.take_append_drop 24 (words1.drop 24), List.all_append, w_t2, ← List.take_append_drop 24 ((words1.drop 24).drop 24), List.all_append, w_t3, ← List.take_append_drop 24 (((words1.drop 24).drop 24).drop 24), List.all_append, w_t4, w_t5]
  rfl
set_option maxRecDepth 65536 in
theorem w_case : (Jvm.Cond.and given_1 narrow_1).before args0 about1 = true := by decide +kernel
theorem w_applies : (headSpec (Jvm.Cond.code x code maxLocals ret :: tables_1) room_1).applies x e0.platform about1 = true :=
  (Spec.applies_iff w_frames).mpr ⟨w_running, w_runnable, w_alone, w_named, w_hears, w_ripe, w_room, w_tables⟩
theorem atStart : AtStart classFile x code maxLocals ret World_1 tables_1 room_1 Calls_1 rest_1 Pre_1 launch0 p0 e0 about1 theMethod args0 below0 :=
  ⟨lists_1, trivial, launch0.admits_env _ _ _, launch0.least_env, fairChoices_fair.cas, fairChoices_fair.clock, w_frames, w_args, w_heap, w_applies, trivial, trivial, w_case⟩
end start1
theorem witness_1 : WitnessClaimed_1 := ⟨start1.p0, start1.e0, start1.about1, start1.theMethod, start1.args0, start1.below0, start1.atStart⟩
end Jvm.Pilot.@@N@@
