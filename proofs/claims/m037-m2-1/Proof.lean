import JvmDerived
import JvmDerived.Pilot.@@N@@Statement
import JvmDerived.Pilot.@@N@@Code
set_option linter.unusedVariables false
set_option linter.unusedSimpArgs false
namespace Jvm.RoadKit
open Sem ClassFile Op Lib Jvm.Stand Jvm.Free Jvm.LawKit
section New
variable {p : Program} {l : Launch} {e : Env} {R : Room} {s : State} {m : MethodId} {args : Array Value} {below : List Frame} {meth : Method} {c : Code} {T : State} {locs : List Loc} {cells slots : Nat}
theorem retI (X : Stand p l e R s m args below meth c T locs cells slots) (hx : p.tables.exec = Jvm.exec) {pc : Nat} {Ls : Array Slot} {z : Int32} {rest : List Value} (hret : meth.sig.returnType = some .int) (hd : decode c.code pc = .ok (.ireturn, 1)) {fs : List Frame}
    (hl : ∀ (f : JFrame) (acts : List Action), f.method = m → f.locked = none → f.entered = [] → (doReturn e (T.setTop f) acts (some (.int z))).1 = T.setFrames fs) : Steps p.tables e below (T.setTop (mkF m pc Ls (.int z :: rest))) (T.setFrames fs) := by
  have hm' : T.vm.method? m = some meth := X.method'
  have hn : narrow .int (.int z) = .int z := rfl
  show Steps p.tables e below (T.setTop { method := m, pc := pc, locals := Ls, stack := _ :: rest, locked := none }) _
  jvm_step X.here [X.here.top, hx, hd, hm', hret, hn]
  first | (intro acts; rw [hl _ acts rfl rfl rfl]) | rw [hl _ _ rfl rfl rfl]
  exact Steps.refl _
theorem own_retN (X : Stand p l e R s m args below meth c T locs cells slots) (hx : p.tables.exec = Jvm.exec) {pc : Nat} {Ls : Array Slot} {z z' : Int32} {t : FieldType} {rest : List Value} (hret : meth.sig.returnType = some t) (ht : t = .boolean ∨ t = .byte ∨ t = .char ∨ t = .short)
    (hd : decode c.code pc = .ok (.ireturn, 1)) (hz : nar t z = z') {fs : List Frame} (hl : ∀ (f : JFrame) (acts : List Action), f.method = m → f.locked = none → f.entered = [] → (doReturn e (T.setTop f) acts (some (.int z'))).1 = T.setFrames fs) :
    Steps p.tables e below (T.setTop (mkF m pc Ls (.int z :: rest))) (T.setFrames fs) := by
  subst hz; exact retN X hx hret ht hd hl
end New
theorem own_nar_if {P : Prop} [Decidable P] {a b : Int32} (ha : nar .boolean a = a) (hb : nar .boolean b = b) : nar .boolean (if P then a else b) = if P then a else b := by
  split
  · exact ha
  · exact hb
theorem own_b_lt (x y : Int32) : (if if_icmp.holds .lt x y = true then (0 : Int32) else 1) = if x < y then 0 else 1 := by
  by_cases h : x < y
  · rw [(tlt h).1]; simp [h]
  · rw [(flt h).1]; simp [h]
theorem own_b_ge (x y : Int32) : (if if_icmp.holds .ge x y = true then (0 : Int32) else 1) = if x < y then 1 else 0 := by
  by_cases h : x < y
  · rw [(tlt h).2.1]; simp [h]
  · rw [(flt h).2.1]; simp [h]
theorem own_b_gt (x y : Int32) : (if if_icmp.holds .gt x y = true then (0 : Int32) else 1) = if y < x then 0 else 1 := by
  by_cases h : y < x
  · rw [(tlt h).2.2.1]; simp [h]
  · rw [(flt h).2.2.1]; simp [h]
theorem own_b_le (x y : Int32) : (if if_icmp.holds .le x y = true then (0 : Int32) else 1) = if y < x then 1 else 0 := by
  by_cases h : y < x
  · rw [(tlt h).2.2.2]; simp [h]
  · rw [(flt h).2.2.2]; simp [h]
theorem own_b_eq (x y : Int32) : (if if_icmp.holds .eq x y = true then (0 : Int32) else 1) = if x = y then 0 else 1 := by
  by_cases h : x = y
  · rw [(teq h).1]; simp [h]
  · rw [(feq h).1]; simp [h]
theorem own_b_ne (x y : Int32) : (if if_icmp.holds .ne x y = true then (0 : Int32) else 1) = if x = y then 1 else 0 := by
  by_cases h : x = y
  · rw [(teq h).2]; simp [h]
  · rw [(feq h).2]; simp [h]
theorem own_boolC {tb : Tables} [Ours tb] {e : Env} {below : List Frame} {T target : State} {m : MethodId} {c : Code} {g : JFrame} (h : At T m c below) (hx : tb.exec = Jvm.exec) (hg : g.method = m) {cd : ClassFile.Cond} {x y z : Int32} {rest : List Value}
    (hd0 : decode c.code g.pc = .ok (.if_icmp cd 7, 3)) (hd1 : decode c.code (g.pc + 3) = .ok (.iconst 1, 1)) (hd2 : decode c.code (g.pc + 4) = .ok (.goto 4, 3)) (hd3 : decode c.code (g.pc + 7) = .ok (.iconst 0, 1)) (hs : g.stack = .int y :: .int x :: rest)
    (hz : (if if_icmp.holds cd x y = true then (0 : Int32) else 1) = z) (hr : Steps tb e below (T.setTop { g with pc := g.pc + 8, stack := .int z :: rest }) target) : Steps tb e below (T.setTop g) target := by
  by_cases hc : if_icmp.holds cd x y = true
  · rw [if_pos hc] at hz; subst hz
    exact XS.icmpYes h hx hg (pc0 := g.pc) (pc' := g.pc + 7) rfl hd0 hs hc (by omega) (by omega) (XS.iconst h hx hg hd3 hr)
  · rw [if_neg hc] at hz; subst hz
    exact XS.icmpNo h hx hg hd0 hs (by simpa using hc) (XS.iconst h hx hg hd1 (XS.goto h hx hg (pc0 := g.pc + 4) (pc' := g.pc + 8) rfl hd2 (by omega) (by omega) hr))
theorem own_boolI {tb : Tables} [Ours tb] {e : Env} {below : List Frame} {T target : State} {m : MethodId} {c : Code} {g : JFrame} (h : At T m c below) (hx : tb.exec = Jvm.exec) (hg : g.method = m) {cd : ClassFile.Cond} {x z : Int32} {rest : List Value}
    (hd0 : decode c.code g.pc = .ok (.ifCond cd 7, 3)) (hd1 : decode c.code (g.pc + 3) = .ok (.iconst 1, 1)) (hd2 : decode c.code (g.pc + 4) = .ok (.goto 4, 3)) (hd3 : decode c.code (g.pc + 7) = .ok (.iconst 0, 1)) (hs : g.stack = .int x :: rest)
    (hz : (if if_icmp.holds cd x 0 = true then (0 : Int32) else 1) = z) (hr : Steps tb e below (T.setTop { g with pc := g.pc + 8, stack := .int z :: rest }) target) : Steps tb e below (T.setTop g) target := by
  by_cases hc : if_icmp.holds cd x 0 = true
  · rw [if_pos hc] at hz; subst hz
    exact XS.ifYes h hx hg (pc0 := g.pc) (pc' := g.pc + 7) rfl hd0 hs ((if0 _ _).trans hc) (by omega) (by omega) (XS.iconst h hx hg hd3 hr)
  · rw [if_neg hc] at hz; subst hz
    exact XS.ifNo h hx hg hd0 hs ((if0 _ _).trans (by simpa using hc)) (XS.iconst h hx hg hd1 (XS.goto h hx hg (pc0 := g.pc + 4) (pc' := g.pc + 8) rfl hd2 (by omega) (by omega) hr))
theorem own_selects_private {y : MethodName} {s : State} {args : Array Value} {n : Nat} (hins : (Cond.instantiable y.cls n).before args s = true) (hpriv : (Cond.privateMethod y).before args s = true) (hinst : (Cond.instanceMethod y).before args s = true) (hy : y.cls ≠ "java/lang/invoke/MethodHandle" ∧ y.cls ≠ "java/lang/invoke/VarHandle" := by decide) :
    (Cond.selects y.cls y y).before args s = true := by
  obtain ⟨c, k, hc, hk, -, hniab, -, -⟩ := Cond.instantiable_spec hins
  have hni : k.isInterface = false := (Bool.or_eq_false_iff.mp hniab).1
  obtain ⟨mk, methM, hnamed, hmethM, -, -⟩ := Cond.instanceMethod_spec hinst
  have hfound : s.methodFound? y.cls y.name y.desc = some mk := State.methodFound?_of_named hnamed hy
  have hcls : mk.cls = c := Option.some.inj ((findClass_of_methodNamed hnamed).symm.trans hc)
  have hsel : selectMethod {} s.vm c mk = .method mk := selectMethod_private hmethM (Cond.privateMethod_at hpriv mk methM hnamed hmethM)
  simp only [Cond.before, Cond.holds, Cond.value, hc, hfound, hnamed, hsel, hcls, hk]
  simp; exact hni
theorem own_sta_keep {Z : State} {h h' : Heap} {C n d : String} {v : Value} {ws : List Addr} (F : Sta Z h C n d v) (K : Keep h h' ws) (q : ∀ x ∈ ws, ∀ cell : Cell, h[x]? = some cell → cell.vm.isStatics = false) : Sta Z h' C n d v := by
  obtain ⟨cf, i, k, f, st, cell, h1, h2, h3, h4, h5, h6, h7⟩ := F
  refine ⟨cf, i, k, f, st, cell, h1, h2, h3, h4, K.2.1 _ _ h5 (fun hm => ?_), h6, h7⟩
  rw [q _ hm _ h5] at h6; cases h6
theorem own_plain_exa {Z : State} {h : Heap} {a : Addr} {C : String} (F : Exa Z h a C) : ∀ cell : Cell, h[a]? = some cell → cell.vm.isStatics = false := fun cell hc => by
  obtain ⟨c, k, h1, -, -, h4, -⟩ := F
  cases h1.symm.trans hc; exact h4
end Jvm.RoadKit
namespace Jvm.Pilot.@@N@@
open Jvm Jvm.ClassFile Sem Op Lib Jvm.Free Jvm.Stand Jvm.LawKit Jvm.RoadKit Bundle Jvm.Pilot.@@N@@.Jvm.D
theorem own_m15 (a : Int32) : 0 ≤ (a &&& (15 : Int32)).toInt ∧ (a &&& (15 : Int32)).toInt ≤ 15 := by
  have := c_and a (15 : Int32) (by decide)
  have e : (15 : Int32).toInt = 15 := by decide
  omega
theorem own_m7 (a : Int32) : 0 ≤ (a &&& (7 : Int32)).toInt ∧ (a &&& (7 : Int32)).toInt ≤ 7 := by
  have := c_and a (7 : Int32) (by decide)
  have e : (7 : Int32).toInt = 7 := by decide
  omega
theorem own_nat (n : Nat) (hn : n ≤ 2147483647) {c : Int32} (h1 : 0 ≤ c.toInt) (h2 : c.toInt ≤ n) : ∃ i : Fin (n + 1), c = Int32.ofNat i.val := by
  refine ⟨⟨c.toInt.toNat, by omega⟩, Int32.toInt_inj.mp ?_⟩
  rw [Int32.toInt_ofNat_of_lt (by show c.toInt.toNat < _; omega)]
  show c.toInt = ((c.toInt.toNat : Nat) : Int)
  omega
theorem own_z0_f : ∀ i : Fin 16, ¬ ((((1 : Int32) + (Int32.ofNat i.val)) + (8 : Int32)) + ((4 : Int32) * (((5 : Int32) * (Int32.ofNat i.val)) + (8 : Int32)))) < 0 := by decide +kernel
theorem own_z0 {b : Int32} (h0 : 0 ≤ b.toInt) (h1 : b.toInt ≤ 15) : ¬ ((((1 : Int32) + b) + (8 : Int32)) + ((4 : Int32) * (((5 : Int32) * b) + (8 : Int32)))) < 0 := by
  obtain ⟨i, rfl⟩ := own_nat 15 (by decide) h0 h1
  exact own_z0_f i
theorem own_zc_f : ∀ i : Fin 16, (((((1 : Int32) + (Int32.ofNat i.val)) + (8 : Int32)) + ((4 : Int32) * (((5 : Int32) * (Int32.ofNat i.val)) + (8 : Int32))))).toNatClampNeg ≤ 356 := by decide +kernel
theorem own_zc {b : Int32} (h0 : 0 ≤ b.toInt) (h1 : b.toInt ≤ 15) : (((((1 : Int32) + b) + (8 : Int32)) + ((4 : Int32) * (((5 : Int32) * b) + (8 : Int32))))).toNatClampNeg ≤ 356 := by
  obtain ⟨i, rfl⟩ := own_nat 15 (by decide) h0 h1
  exact own_zc_f i
theorem own_zp_f : ∀ i : Fin 16, (0 : Int32) < ((((1 : Int32) + (Int32.ofNat i.val)) + (8 : Int32)) + ((4 : Int32) * (((5 : Int32) * (Int32.ofNat i.val)) + (8 : Int32)))) := by decide +kernel
theorem own_zp {b : Int32} (h0 : 0 ≤ b.toInt) (h1 : b.toInt ≤ 15) : (0 : Int32) < ((((1 : Int32) + b) + (8 : Int32)) + ((4 : Int32) * (((5 : Int32) * b) + (8 : Int32)))) := by
  obtain ⟨i, rfl⟩ := own_nat 15 (by decide) h0 h1
  exact own_zp_f i
theorem own_y0_f : ∀ i : Fin 16, ¬ ((1 : Int32) + ((5 : Int32) * (Int32.ofNat i.val))) < 0 := by decide +kernel
theorem own_y0 {b : Int32} (h0 : 0 ≤ b.toInt) (h1 : b.toInt ≤ 15) : ¬ ((1 : Int32) + ((5 : Int32) * b)) < 0 := by
  obtain ⟨i, rfl⟩ := own_nat 15 (by decide) h0 h1
  exact own_y0_f i
theorem own_yc_f : ∀ i : Fin 16, (((1 : Int32) + ((5 : Int32) * (Int32.ofNat i.val)))).toNatClampNeg ≤ 356 := by decide +kernel
theorem own_yc {b : Int32} (h0 : 0 ≤ b.toInt) (h1 : b.toInt ≤ 15) : (((1 : Int32) + ((5 : Int32) * b))).toNatClampNeg ≤ 356 := by
  obtain ⟨i, rfl⟩ := own_nat 15 (by decide) h0 h1
  exact own_yc_f i
theorem own_yp_f : ∀ i : Fin 16, (0 : Int32) < ((1 : Int32) + ((5 : Int32) * (Int32.ofNat i.val))) := by decide +kernel
theorem own_yp {b : Int32} (h0 : 0 ≤ b.toInt) (h1 : b.toInt ≤ 15) : (0 : Int32) < ((1 : Int32) + ((5 : Int32) * b)) := by
  obtain ⟨i, rfl⟩ := own_nat 15 (by decide) h0 h1
  exact own_yp_f i
theorem own_rne_f : ∀ i : Fin 16, ¬ (((((1 : Int32) + (Int32.ofNat i.val)) + (8 : Int32)) + ((4 : Int32) * (((5 : Int32) * (Int32.ofNat i.val)) + (8 : Int32)))) = ((1 : Int32) + ((5 : Int32) * (Int32.ofNat i.val)))) := by decide +kernel
theorem own_rne {b : Int32} (h0 : 0 ≤ b.toInt) (h1 : b.toInt ≤ 15) : ¬ (((((1 : Int32) + b) + (8 : Int32)) + ((4 : Int32) * (((5 : Int32) * b) + (8 : Int32)))) = ((1 : Int32) + ((5 : Int32) * b))) := by
  obtain ⟨i, rfl⟩ := own_nat 15 (by decide) h0 h1
  exact own_rne_f i
theorem own_l0_f : ∀ (i : Fin 16) (j : Fin 8), ¬ (if (0 : Int32) < (((1 : Int32) + ((5 : Int32) * (Int32.ofNat i.val))) + ((Int32.ofNat j.val) - (4 : Int32))) then (((1 : Int32) + ((5 : Int32) * (Int32.ofNat i.val))) + ((Int32.ofNat j.val) - (4 : Int32))) else (0 : Int32)) < 0 := by decide +kernel
theorem own_l0 {b d : Int32} (h0 : 0 ≤ b.toInt) (h1 : b.toInt ≤ 15) (h2 : 0 ≤ d.toInt) (h3 : d.toInt ≤ 7) : ¬ (if (0 : Int32) < (((1 : Int32) + ((5 : Int32) * b)) + (d - (4 : Int32))) then (((1 : Int32) + ((5 : Int32) * b)) + (d - (4 : Int32))) else (0 : Int32)) < 0 := by
  obtain ⟨i, rfl⟩ := own_nat 15 (by decide) h0 h1
  obtain ⟨j, rfl⟩ := own_nat 7 (by decide) h2 h3
  exact own_l0_f i j
theorem own_lc_f : ∀ (i : Fin 16) (j : Fin 8), ((if (0 : Int32) < (((1 : Int32) + ((5 : Int32) * (Int32.ofNat i.val))) + ((Int32.ofNat j.val) - (4 : Int32))) then (((1 : Int32) + ((5 : Int32) * (Int32.ofNat i.val))) + ((Int32.ofNat j.val) - (4 : Int32))) else (0 : Int32))).toNatClampNeg ≤ 79 := by decide +kernel
theorem own_lc {b d : Int32} (h0 : 0 ≤ b.toInt) (h1 : b.toInt ≤ 15) (h2 : 0 ≤ d.toInt) (h3 : d.toInt ≤ 7) : ((if (0 : Int32) < (((1 : Int32) + ((5 : Int32) * b)) + (d - (4 : Int32))) then (((1 : Int32) + ((5 : Int32) * b)) + (d - (4 : Int32))) else (0 : Int32))).toNatClampNeg ≤ 79 := by
  obtain ⟨i, rfl⟩ := own_nat 15 (by decide) h0 h1
  obtain ⟨j, rfl⟩ := own_nat 7 (by decide) h2 h3
  exact own_lc_f i j
theorem own_steq {args : Array Value} {s : State} {t : Term} {i : Int32} (h : (Cond.eq t (Term.int i)).value args s none s [] = some true) : t.eval args s none [] s = some (.int i) := by
  have h2 : (Term.int i).eval args s none [] s = some (.int i) := Term.int_eval i
  cases hv : t.eval args s none [] s with
  | none => simp [Cond.value, hv] at h
  | some v => cases v <;> simp [Cond.value, hv, h2] at h; subst h; rfl
theorem d2_0 : decode prog_53_method_13_code 0 = .ok (.iconst 1, 1) := by decide +kernel
theorem d2_1 : decode prog_53_method_13_code 1 = .ok (.iload_n 0, 1) := by decide +kernel
theorem d2_2 : decode prog_53_method_13_code 2 = .ok (.iadd, 1) := by decide +kernel
theorem d2_3 : decode prog_53_method_13_code 3 = .ok (.ireturn, 1) := by decide +kernel
theorem ef_rm2 (m : MethodId) (x0 : Int32) : entryFrame m #[(.int x0)] 1 = mkF m 0 #[.val (.int x0)] [] := by first | (simp [entryFrame, mkF, argsToLocals, Value.category]; done) | rfl
theorem pn_0 : plainName "com/example/libthrottle/libthrottle/stat/Span" = true := by first | (simp [plainName, overriddenIn]; done) | decide +kernel
def Q2 (Z : State) (p0 : Int32) (h0 : Heap) (n0 : Nat) (v : Option Value) (h : Heap) (L : List Loc) : Prop := v = some (.int ((1 : Int32) + p0)) ∧ Fr n0 L ∧ h = h0
set_option maxRecDepth 65536 in
set_option maxHeartbeats 40000000 in
theorem rm2 (l : Launch) (Z : State) (a0 : Array Value) (hw : ∀ d ∈ tables_1, d.before a0 Z = true) (ws : List Jvm.Cond) (p0 : Int32) (h0 : Heap) (n0 : Nat) (Z0 : n0 ≤ h0.size)  :
    MetFree l (⟨"com/example/libthrottle/libthrottle/stat/Span", "lead", "(I)I"⟩ : MethodName) (head1 (Jvm.Cond.code (⟨"com/example/libthrottle/libthrottle/stat/Span", "lead", "(I)I"⟩ : MethodName) prog_53_method_13_code 1 (some .int) :: ws) ({ frames := 0, cells := 0, slots := 0, locals := 0 } : Room)) (fun a U => a = #[(.int p0)] ∧ Z.Warmed39 U.vm ∧ U.heap = h0) (fun _ _ _ _ _ => True) (fun _ U o U' => ∃ v L, o = .returned v ∧ Q2 Z p0 h0 n0 v U'.heap L ∧ FrameEnd U o U' L ({ frames := 0, cells := 0, slots := 0, locals := 0 } : Room).cells ({ frames := 0, cells := 0, slots := 0, locals := 0 } : Room).slots) := by
  refine MetFree.of_bodySF (plainFor_of_name pn_0) hisR ?_
  intro p e s0 m args below meth c s₁ Bd hml0 hP hK
  obtain ⟨rfl, hZ, hh⟩ := hP
  have hx := Bd.exec
  have hby := Bd.bytes
  have hml : c.maxLocals = 1 := hml0
  have hown : s0.vm.findClass "com/example/libthrottle/libthrottle/stat/Span" = some m.cls := findClass_of_methodNamed Bd.named
  have hnm := (name_of_methodNamed Bd.named Bd.method).1
  have X0 : Stand p l e ({ frames := 0, cells := 0, slots := 0, locals := 0 } : Room) s0 m #[(.int p0)] below meth c s₁ [] 0 0 := Stand.of_body Bd
  have e0 : s₁.heap = h0 := by rw [← hh, Bd.state]; rfl
  have N0 := Fr.nil n0
  have pre0 : ∀ t, Steps p.tables e below (s₁.setTop (mkF m 0 #[.val (.int p0)] [])) t → Steps p.tables e below (s₁.setTop (entryFrame m #[(.int p0)] 1)) t := fun t k => castTop (ef_rm2 m p0) k
  have pre1 : ∀ t, Steps p.tables e below (s₁.setTop (mkF m 3 #[.val (.int p0)] [(.int ((1 : Int32) + p0))])) t → Steps p.tables e below (s₁.setTop (entryFrame m #[(.int p0)] 1)) t := fun t k => by
    refine pre0 t ?_
    show Steps p.tables e below (s₁.setTop (mkF m 0 #[.val (.int p0)] [])) _
    refine XS.iconst X0.here hx rfl (hb hby d2_0) ?_
    show Steps p.tables e below (s₁.setTop (mkF m 1 #[.val (.int p0)] [(.int (1 : Int32))])) _
    refine XS.iloadN X0.here hx rfl (hb hby d2_1) rfl ?_
    show Steps p.tables e below (s₁.setTop (mkF m 2 #[.val (.int p0)] [(.int p0), (.int (1 : Int32))])) _
    refine XS.iadd X0.here hx rfl (hb hby d2_2) rfl ?_
    exact k
  obtain ⟨fs, hrq, hrun, hended, hW, hsame⟩ := X0.leave (v := some (.int ((1 : Int32) + p0))) (fun h => by rw [Bd.returns] at h; cases h)
  refine ⟨_, _, pre1 _ ?_, hrun, hended, _, _, rfl, ?_, ⟨_, rfl⟩, hW, hsame.mono (by decide) (by decide)⟩
  · show Steps p.tables e below (s₁.setTop (mkF m 3 #[.val (.int p0)] [(.int ((1 : Int32) + p0))])) _
    exact retI X0 hx Bd.returns (hb hby d2_3) hrq
  · show Q2 Z p0 h0 n0 _ s₁.heap _
    rw [e0]
    exact ⟨rfl, N0, rfl⟩
theorem d3_0 : decode prog_53_method_14_code 0 = .ok (.iconst 5, 1) := by decide +kernel
theorem d3_1 : decode prog_53_method_14_code 1 = .ok (.iload_n 0, 1) := by decide +kernel
theorem d3_2 : decode prog_53_method_14_code 2 = .ok (.imul, 1) := by decide +kernel
theorem d3_3 : decode prog_53_method_14_code 3 = .ok (.ireturn, 1) := by decide +kernel
theorem ef_rm3 (m : MethodId) (x0 : Int32) : entryFrame m #[(.int x0)] 1 = mkF m 0 #[.val (.int x0)] [] := by first | (simp [entryFrame, mkF, argsToLocals, Value.category]; done) | rfl
def Q3 (Z : State) (p0 : Int32) (h0 : Heap) (n0 : Nat) (v : Option Value) (h : Heap) (L : List Loc) : Prop := v = some (.int ((5 : Int32) * p0)) ∧ Fr n0 L ∧ h = h0
set_option maxRecDepth 65536 in
set_option maxHeartbeats 40000000 in
theorem rm3 (l : Launch) (Z : State) (a0 : Array Value) (hw : ∀ d ∈ tables_1, d.before a0 Z = true) (ws : List Jvm.Cond) (p0 : Int32) (h0 : Heap) (n0 : Nat) (Z0 : n0 ≤ h0.size)  :
    MetFree l (⟨"com/example/libthrottle/libthrottle/stat/Span", "width", "(I)I"⟩ : MethodName) (head1 (Jvm.Cond.code (⟨"com/example/libthrottle/libthrottle/stat/Span", "width", "(I)I"⟩ : MethodName) prog_53_method_14_code 1 (some .int) :: ws) ({ frames := 0, cells := 0, slots := 0, locals := 0 } : Room)) (fun a U => a = #[(.int p0)] ∧ Z.Warmed39 U.vm ∧ U.heap = h0) (fun _ _ _ _ _ => True) (fun _ U o U' => ∃ v L, o = .returned v ∧ Q3 Z p0 h0 n0 v U'.heap L ∧ FrameEnd U o U' L ({ frames := 0, cells := 0, slots := 0, locals := 0 } : Room).cells ({ frames := 0, cells := 0, slots := 0, locals := 0 } : Room).slots) := by
  refine MetFree.of_bodySF (plainFor_of_name pn_0) hisR ?_
  intro p e s0 m args below meth c s₁ Bd hml0 hP hK
  obtain ⟨rfl, hZ, hh⟩ := hP
  have hx := Bd.exec
  have hby := Bd.bytes
  have hml : c.maxLocals = 1 := hml0
  have hown : s0.vm.findClass "com/example/libthrottle/libthrottle/stat/Span" = some m.cls := findClass_of_methodNamed Bd.named
  have hnm := (name_of_methodNamed Bd.named Bd.method).1
  have X0 : Stand p l e ({ frames := 0, cells := 0, slots := 0, locals := 0 } : Room) s0 m #[(.int p0)] below meth c s₁ [] 0 0 := Stand.of_body Bd
  have e0 : s₁.heap = h0 := by rw [← hh, Bd.state]; rfl
  have N0 := Fr.nil n0
  have pre0 : ∀ t, Steps p.tables e below (s₁.setTop (mkF m 0 #[.val (.int p0)] [])) t → Steps p.tables e below (s₁.setTop (entryFrame m #[(.int p0)] 1)) t := fun t k => castTop (ef_rm3 m p0) k
  have pre1 : ∀ t, Steps p.tables e below (s₁.setTop (mkF m 3 #[.val (.int p0)] [(.int ((5 : Int32) * p0))])) t → Steps p.tables e below (s₁.setTop (entryFrame m #[(.int p0)] 1)) t := fun t k => by
    refine pre0 t ?_
    show Steps p.tables e below (s₁.setTop (mkF m 0 #[.val (.int p0)] [])) _
    refine XS.iconst X0.here hx rfl (hb hby d3_0) ?_
    show Steps p.tables e below (s₁.setTop (mkF m 1 #[.val (.int p0)] [(.int (5 : Int32))])) _
    refine XS.iloadN X0.here hx rfl (hb hby d3_1) rfl ?_
    show Steps p.tables e below (s₁.setTop (mkF m 2 #[.val (.int p0)] [(.int p0), (.int (5 : Int32))])) _
    refine XS.imul X0.here hx rfl (hb hby d3_2) rfl ?_
    exact k
  obtain ⟨fs, hrq, hrun, hended, hW, hsame⟩ := X0.leave (v := some (.int ((5 : Int32) * p0))) (fun h => by rw [Bd.returns] at h; cases h)
  refine ⟨_, _, pre1 _ ?_, hrun, hended, _, _, rfl, ?_, ⟨_, rfl⟩, hW, hsame.mono (by decide) (by decide)⟩
  · show Steps p.tables e below (s₁.setTop (mkF m 3 #[.val (.int p0)] [(.int ((5 : Int32) * p0))])) _
    exact retI X0 hx Bd.returns (hb hby d3_3) hrq
  · show Q3 Z p0 h0 n0 _ s₁.heap _
    rw [e0]
    exact ⟨rfl, N0, rfl⟩
theorem d6_0 : decode jdk_29_method_65_code 0 = .ok (.iload_n 0, 1) := by decide +kernel
theorem d6_1 : decode jdk_29_method_65_code 1 = .ok (.iload_n 1, 1) := by decide +kernel
theorem d6_2 : decode jdk_29_method_65_code 2 = .ok (.if_icmp .lt 7, 3) := by decide +kernel
theorem d6_5 : decode jdk_29_method_65_code 5 = .ok (.iload_n 0, 1) := by decide +kernel
theorem d6_6 : decode jdk_29_method_65_code 6 = .ok (.goto 4, 3) := by decide +kernel
theorem d6_9 : decode jdk_29_method_65_code 9 = .ok (.iload_n 1, 1) := by decide +kernel
theorem d6_10 : decode jdk_29_method_65_code 10 = .ok (.ireturn, 1) := by decide +kernel
theorem ef_rm6 (m : MethodId) (x0 : Int32) (x1 : Int32) : entryFrame m #[(.int x0), (.int x1)] 2 = mkF m 0 #[.val (.int x0), .val (.int x1)] [] := by first | (simp [entryFrame, mkF, argsToLocals, Value.category]; done) | rfl
def Q6 (Z : State) (p0 : Int32) (p1 : Int32) (h0 : Heap) (n0 : Nat) (v : Option Value) (h : Heap) (L : List Loc) : Prop := v = some (.int (if p0 < p1 then p1 else p0)) ∧ Fr n0 L ∧ h = h0
set_option maxRecDepth 65536 in
set_option maxHeartbeats 40000000 in
theorem rm6 (l : Launch) (Z : State) (a0 : Array Value) (hw : ∀ d ∈ tables_1, d.before a0 Z = true) (ws : List Jvm.Cond) (p0 : Int32) (p1 : Int32) (h0 : Heap) (n0 : Nat) (Z0 : n0 ≤ h0.size)  :
    MetFree l (⟨"java/lang/Math", "max", "(II)I"⟩ : MethodName) (head1 (Jvm.Cond.code (⟨"java/lang/Math", "max", "(II)I"⟩ : MethodName) jdk_29_method_65_code 2 (some .int) :: ws) ({ frames := 0, cells := 0, slots := 0, locals := 0 } : Room)) (fun a U => a = #[(.int p0), (.int p1)] ∧ Z.Warmed39 U.vm ∧ U.heap = h0) (fun _ _ _ _ _ => True) (fun _ U o U' => ∃ v L, o = .returned v ∧ Q6 Z p0 p1 h0 n0 v U'.heap L ∧ FrameEnd U o U' L ({ frames := 0, cells := 0, slots := 0, locals := 0 } : Room).cells ({ frames := 0, cells := 0, slots := 0, locals := 0 } : Room).slots) := by
  refine MetFree.of_bodySF (Jvm.Free.JP.mathPlain rfl (by decide +kernel)) hisR ?_
  intro p e s0 m args below meth c s₁ Bd hml0 hP hK
  obtain ⟨rfl, hZ, hh⟩ := hP
  have hx := Bd.exec
  have hby := Bd.bytes
  have hml : c.maxLocals = 2 := hml0
  have hown : s0.vm.findClass "java/lang/Math" = some m.cls := findClass_of_methodNamed Bd.named
  have hnm := (name_of_methodNamed Bd.named Bd.method).1
  have X0 : Stand p l e ({ frames := 0, cells := 0, slots := 0, locals := 0 } : Room) s0 m #[(.int p0), (.int p1)] below meth c s₁ [] 0 0 := Stand.of_body Bd
  have e0 : s₁.heap = h0 := by rw [← hh, Bd.state]; rfl
  have N0 := Fr.nil n0
  have pre0 : ∀ t, Steps p.tables e below (s₁.setTop (mkF m 0 #[.val (.int p0), .val (.int p1)] [])) t → Steps p.tables e below (s₁.setTop (entryFrame m #[(.int p0), (.int p1)] 2)) t := fun t k => castTop (ef_rm6 m p0 p1) k
  have pre1 : ∀ t, Steps p.tables e below (s₁.setTop (mkF m 2 #[.val (.int p0), .val (.int p1)] [(.int p1), (.int p0)])) t → Steps p.tables e below (s₁.setTop (entryFrame m #[(.int p0), (.int p1)] 2)) t := fun t k => by
    refine pre0 t ?_
    show Steps p.tables e below (s₁.setTop (mkF m 0 #[.val (.int p0), .val (.int p1)] [])) _
    refine XS.iloadN X0.here hx rfl (hb hby d6_0) rfl ?_
    show Steps p.tables e below (s₁.setTop (mkF m 1 #[.val (.int p0), .val (.int p1)] [(.int p0)])) _
    refine XS.iloadN X0.here hx rfl (hb hby d6_1) rfl ?_
    exact k
  by_cases hc2_2 : p0 < p1
  · have pre3 : ∀ t, Steps p.tables e below (s₁.setTop (mkF m 10 #[.val (.int p0), .val (.int p1)] [(.int p1)])) t → Steps p.tables e below (s₁.setTop (entryFrame m #[(.int p0), (.int p1)] 2)) t := fun t k => by
      refine pre1 t ?_
      show Steps p.tables e below (s₁.setTop (mkF m 2 #[.val (.int p0), .val (.int p1)] [(.int p1), (.int p0)])) _
      refine XS.icmpYes X0.here hx rfl (pc0 := 2) (pc' := 9) rfl (hb hby d6_2) rfl (tlt hc2_2).1 (by decide) (by decide) ?_
      show Steps p.tables e below (s₁.setTop (mkF m 9 #[.val (.int p0), .val (.int p1)] [])) _
      refine XS.iloadN X0.here hx rfl (hb hby d6_9) rfl ?_
      exact k
    obtain ⟨fs, hrq, hrun, hended, hW, hsame⟩ := X0.leave (v := some (.int p1)) (fun h => by rw [Bd.returns] at h; cases h)
    refine ⟨_, _, pre3 _ ?_, hrun, hended, _, _, rfl, ?_, ⟨_, rfl⟩, hW, hsame.mono (by decide) (by decide)⟩
    · show Steps p.tables e below (s₁.setTop (mkF m 10 #[.val (.int p0), .val (.int p1)] [(.int p1)])) _
      exact retI X0 hx Bd.returns (hb hby d6_10) hrq
    · show Q6 Z p0 p1 h0 n0 _ s₁.heap _
      rw [e0]
      exact ⟨by rw [if_pos hc2_2], N0, rfl⟩
  · have pre4 : ∀ t, Steps p.tables e below (s₁.setTop (mkF m 10 #[.val (.int p0), .val (.int p1)] [(.int p0)])) t → Steps p.tables e below (s₁.setTop (entryFrame m #[(.int p0), (.int p1)] 2)) t := fun t k => by
      refine pre1 t ?_
      show Steps p.tables e below (s₁.setTop (mkF m 2 #[.val (.int p0), .val (.int p1)] [(.int p1), (.int p0)])) _
      refine XS.icmpNo X0.here hx rfl (hb hby d6_2) rfl (flt hc2_2).1 ?_
      show Steps p.tables e below (s₁.setTop (mkF m 5 #[.val (.int p0), .val (.int p1)] [])) _
      refine XS.iloadN X0.here hx rfl (hb hby d6_5) rfl ?_
      show Steps p.tables e below (s₁.setTop (mkF m 6 #[.val (.int p0), .val (.int p1)] [(.int p0)])) _
      refine XS.goto X0.here hx rfl (pc0 := 6) (pc' := 10) rfl (hb hby d6_6) (by decide) (by decide) ?_
      exact k
    obtain ⟨fs, hrq, hrun, hended, hW, hsame⟩ := X0.leave (v := some (.int p0)) (fun h => by rw [Bd.returns] at h; cases h)
    refine ⟨_, _, pre4 _ ?_, hrun, hended, _, _, rfl, ?_, ⟨_, rfl⟩, hW, hsame.mono (by decide) (by decide)⟩
    · show Steps p.tables e below (s₁.setTop (mkF m 10 #[.val (.int p0), .val (.int p1)] [(.int p0)])) _
      exact retI X0 hx Bd.returns (hb hby d6_10) hrq
    · show Q6 Z p0 p1 h0 n0 _ s₁.heap _
      rw [e0]
      exact ⟨by rw [if_neg hc2_2], N0, rfl⟩
theorem d4_0 : decode prog_45_method_2_code 0 = .ok (.iload_n 0, 1) := by decide +kernel
theorem d4_1 : decode prog_45_method_2_code 1 = .ok (.bipush 8, 2) := by decide +kernel
theorem d4_3 : decode prog_45_method_2_code 3 = .ok (.iadd, 1) := by decide +kernel
theorem d4_4 : decode prog_45_method_2_code 4 = .ok (.getstatic 9, 3) := by decide +kernel
theorem d4_7 : decode prog_45_method_2_code 7 = .ok (.iload_n 1, 1) := by decide +kernel
theorem d4_8 : decode prog_45_method_2_code 8 = .ok (.bipush 8, 2) := by decide +kernel
theorem d4_10 : decode prog_45_method_2_code 10 = .ok (.iadd, 1) := by decide +kernel
theorem d4_11 : decode prog_45_method_2_code 11 = .ok (.imul, 1) := by decide +kernel
theorem d4_12 : decode prog_45_method_2_code 12 = .ok (.iadd, 1) := by decide +kernel
theorem d4_13 : decode prog_45_method_2_code 13 = .ok (.newarray .long, 2) := by decide +kernel
theorem d4_15 : decode prog_45_method_2_code 15 = .ok (.areturn, 1) := by decide +kernel
theorem ef_rm4 (m : MethodId) (x0 : Int32) (x1 : Int32) : entryFrame m #[(.int x0), (.int x1)] 2 = mkF m 0 #[.val (.int x0), .val (.int x1)] [] := by first | (simp [entryFrame, mkF, argsToLocals, Value.category]; done) | rfl
theorem pn_1 : plainName "com/example/libthrottle/libthrottle/stat/Cells" = true := by first | (simp [plainName, overriddenIn]; done) | decide +kernel
def Q4 (Z : State) (p0 : Int32) (p1 : Int32) (z : Int32) (h0 : Heap) (n0 : Nat) (v : Option Value) (h : Heap) (L : List Loc) : Prop := ∃ (ar : Addr) (kk : ClassId), v = some (.ref ar) ∧ Fr n0 L ∧ Keep h0 h [] ∧ h0.size ≤ ar ∧ Arv Z h ar kk .long z [(.long (0 : Int64))] (.long (0 : Int64))
set_option maxRecDepth 65536 in
set_option maxHeartbeats 40000000 in
theorem rm4 (l : Launch) (Z : State) (a0 : Array Value) (hw : ∀ d ∈ tables_1, d.before a0 Z = true) (ws : List Jvm.Cond) (p0 : Int32) (p1 : Int32) (z : Int32) (h0 : Heap) (n0 : Nat) (Z0 : n0 ≤ h0.size) (S_slots : Sta Z h0 "com/example/libthrottle/libthrottle/stat/Probe" "SLOTS" "I" (.int (4 : Int32))) (hz : ((p0 + (8 : Int32)) + ((4 : Int32) * (p1 + (8 : Int32)))) = z) (hz0 : ¬ z < 0) (hzc : z.toNatClampNeg ≤ 356) :
    MetFree l (⟨"com/example/libthrottle/libthrottle/stat/Cells", "inRows", "(II)[J"⟩ : MethodName) (head1 (Jvm.Cond.code (⟨"com/example/libthrottle/libthrottle/stat/Cells", "inRows", "(II)[J"⟩ : MethodName) prog_45_method_2_code 2 (some (.array .long)) :: ws) ({ frames := 0, cells := 1, slots := 356, locals := 0 } : Room)) (fun a U => a = #[(.int p0), (.int p1)] ∧ Z.Warmed39 U.vm ∧ U.heap = h0) (fun _ _ _ _ _ => True) (fun _ U o U' => ∃ v L, o = .returned v ∧ Q4 Z p0 p1 z h0 n0 v U'.heap L ∧ FrameEnd U o U' L ({ frames := 0, cells := 1, slots := 356, locals := 0 } : Room).cells ({ frames := 0, cells := 1, slots := 356, locals := 0 } : Room).slots) := by
  refine MetFree.of_bodySF (plainFor_of_name pn_1) hisR ?_
  intro p e s0 m args below meth c s₁ Bd hml0 hP hK
  obtain ⟨rfl, hZ, hh⟩ := hP
  have hx := Bd.exec
  have hby := Bd.bytes
  have hml : c.maxLocals = 2 := hml0
  have hown : s0.vm.findClass "com/example/libthrottle/libthrottle/stat/Cells" = some m.cls := findClass_of_methodNamed Bd.named
  have hnm := (name_of_methodNamed Bd.named Bd.method).1
  have X0 : Stand p l e ({ frames := 0, cells := 1, slots := 356, locals := 0 } : Room) s0 m #[(.int p0), (.int p1)] below meth c s₁ [] 0 0 := Stand.of_body Bd
  have e0 : s₁.heap = h0 := by rw [← hh, Bd.state]; rfl
  have N0 := Fr.nil n0
  have pre0 : ∀ t, Steps p.tables e below (s₁.setTop (mkF m 0 #[.val (.int p0), .val (.int p1)] [])) t → Steps p.tables e below (s₁.setTop (entryFrame m #[(.int p0), (.int p1)] 2)) t := fun t k => castTop (ef_rm4 m p0 p1) k
  obtain ⟨T1, X1, e1, st1⟩ := getS2 X0 hx hZ hown (host := "") (Or.inl (hw _ (List.mem_of_getElem? (i := 14) rfl))) Via.refl e0 S_slots (g := (mkF m 4 #[.val (.int p0), .val (.int p1)] [(.int (p0 + (8 : Int32)))])) rfl (hb hby d4_4)
  obtain ⟨T2, h2, k2, X2, e2, E2, A2, st2⟩ := newP X1 hx hZ (hw _ (List.mem_of_getElem? (i := 17) rfl)) e1 (g := (mkF m 13 #[.val (.int p0), .val (.int p1)] [(.int ((p0 + (8 : Int32)) + ((4 : Int32) * (p1 + (8 : Int32)))))])) rfl (hb hby d4_13) rfl (by rw [hz]; exact hz0) (cap := 356) (by rw [hz]; exact hzc) (by decide) (by decide) (by decide)
  obtain ⟨b2, g2⟩ : ∃ z, z = h0.size := ⟨_, rfl⟩
  rw [← g2] at A2 st2
  have g_b2 : n0 ≤ b2 := Nat.le_trans Z0 (Nat.le_of_eq g2.symm)
  have sz_b2 : h0.size ≤ b2 := Nat.le_trans (Keep.refl h0 []).1 (Nat.le_of_eq g2.symm)
  have Z3 : n0 ≤ h2.size := Nat.le_trans Z0 E2.1
  have K2 : Keep h0 h2 [] := (Keep.refl h0 []).ext E2
  have V2 : Arv Z h2 b2 k2 .long ((p0 + (8 : Int32)) + ((4 : Int32) * (p1 + (8 : Int32)))) [(.long (0 : Int64))] (.long (0 : Int64)) := (Arv.new A2 (by rw [hz]; exact hz0)).pad (pad_rep [] (.long (0 : Int64)) 1)
  have pre4 : ∀ t, Steps p.tables e below (T2.setTop (mkF m 15 #[.val (.int p0), .val (.int p1)] [(.ref b2)])) t → Steps p.tables e below (s₁.setTop (entryFrame m #[(.int p0), (.int p1)] 2)) t := fun t k => by
    refine pre0 t ?_
    show Steps p.tables e below (s₁.setTop (mkF m 0 #[.val (.int p0), .val (.int p1)] [])) _
    refine XS.iloadN X0.here hx rfl (hb hby d4_0) rfl ?_
    show Steps p.tables e below (s₁.setTop (mkF m 1 #[.val (.int p0), .val (.int p1)] [(.int p0)])) _
    refine XS.bipush X0.here hx rfl (hb hby d4_1) ?_
    show Steps p.tables e below (s₁.setTop (mkF m 3 #[.val (.int p0), .val (.int p1)] [(.int (8 : Int32)), (.int p0)])) _
    refine XS.iadd X0.here hx rfl (hb hby d4_3) rfl ?_
    show Steps p.tables e below (s₁.setTop (mkF m 4 #[.val (.int p0), .val (.int p1)] [(.int (p0 + (8 : Int32)))])) _
    refine st1 _ ?_
    show Steps p.tables e below (T1.setTop (mkF m 7 #[.val (.int p0), .val (.int p1)] [(.int (4 : Int32)), (.int (p0 + (8 : Int32)))])) _
    refine XS.iloadN X1.here hx rfl (hb hby d4_7) rfl ?_
    show Steps p.tables e below (T1.setTop (mkF m 8 #[.val (.int p0), .val (.int p1)] [(.int p1), (.int (4 : Int32)), (.int (p0 + (8 : Int32)))])) _
    refine XS.bipush X1.here hx rfl (hb hby d4_8) ?_
    show Steps p.tables e below (T1.setTop (mkF m 10 #[.val (.int p0), .val (.int p1)] [(.int (8 : Int32)), (.int p1), (.int (4 : Int32)), (.int (p0 + (8 : Int32)))])) _
    refine XS.iadd X1.here hx rfl (hb hby d4_10) rfl ?_
    show Steps p.tables e below (T1.setTop (mkF m 11 #[.val (.int p0), .val (.int p1)] [(.int (p1 + (8 : Int32))), (.int (4 : Int32)), (.int (p0 + (8 : Int32)))])) _
    refine XS.imul X1.here hx rfl (hb hby d4_11) rfl ?_
    show Steps p.tables e below (T1.setTop (mkF m 12 #[.val (.int p0), .val (.int p1)] [(.int ((4 : Int32) * (p1 + (8 : Int32)))), (.int (p0 + (8 : Int32)))])) _
    refine XS.iadd X1.here hx rfl (hb hby d4_12) rfl ?_
    show Steps p.tables e below (T1.setTop (mkF m 13 #[.val (.int p0), .val (.int p1)] [(.int ((p0 + (8 : Int32)) + ((4 : Int32) * (p1 + (8 : Int32)))))])) _
    refine st2 _ ?_
    exact k
  obtain ⟨fs, hrq, hrun, hended, hW, hsame⟩ := X2.leave (v := some (.ref b2)) (fun h => by rw [Bd.returns] at h; cases h)
  refine ⟨_, _, pre4 _ ?_, hrun, hended, _, _, rfl, ?_, ⟨_, rfl⟩, hW, hsame.mono (by decide) (by decide)⟩
  · show Steps p.tables e below (T2.setTop (mkF m 15 #[.val (.int p0), .val (.int p1)] [(.ref b2)])) _
    exact retOut X2 hx Bd.returns rfl (Or.inr (Or.inr (Or.inr (Or.inr ⟨rfl, rfl, rfl⟩)))) (hb hby d4_15) hrq
  · show Q4 Z p0 p1 z h0 n0 _ T2.heap _
    rw [e2]
    exact ⟨_, _, rfl, N0, K2, sz_b2, by rw [← hz]; exact V2⟩
theorem pd_0 : parseMethodDescriptor "(I)I" = some ⟨[.int], some .int⟩ := by decide +kernel
theorem pd_1 : parseMethodDescriptor "(II)[J" = some ⟨[.int, .int], some (.array .long)⟩ := by decide +kernel
theorem d1_0 : decode prog_53_method_2_code 0 = .ok (.iload_n 3, 1) := by decide +kernel
theorem d1_1 : decode prog_53_method_2_code 1 = .ok (.ifCond .eq 17, 3) := by decide +kernel
theorem d1_4 : decode prog_53_method_2_code 4 = .ok (.iload_n 2, 1) := by decide +kernel
theorem d1_5 : decode prog_53_method_2_code 5 = .ok (.invokestatic 9, 3) := by decide +kernel
theorem d1_8 : decode prog_53_method_2_code 8 = .ok (.iload_n 2, 1) := by decide +kernel
theorem d1_9 : decode prog_53_method_2_code 9 = .ok (.invokestatic 15, 3) := by decide +kernel
theorem d1_12 : decode prog_53_method_2_code 12 = .ok (.invokestatic 18, 3) := by decide +kernel
theorem d1_15 : decode prog_53_method_2_code 15 = .ok (.goto 11, 3) := by decide +kernel
theorem d1_18 : decode prog_53_method_2_code 18 = .ok (.iconst 1, 1) := by decide +kernel
theorem d1_19 : decode prog_53_method_2_code 19 = .ok (.iload_n 2, 1) := by decide +kernel
theorem d1_20 : decode prog_53_method_2_code 20 = .ok (.invokestatic 15, 3) := by decide +kernel
theorem d1_23 : decode prog_53_method_2_code 23 = .ok (.iadd, 1) := by decide +kernel
theorem d1_24 : decode prog_53_method_2_code 24 = .ok (.newarray .long, 2) := by decide +kernel
theorem d1_26 : decode prog_53_method_2_code 26 = .ok (.astore 4, 2) := by decide +kernel
theorem d1_28 : decode prog_53_method_2_code 28 = .ok (.aload 4, 2) := by decide +kernel
theorem d1_30 : decode prog_53_method_2_code 30 = .ok (.iconst 0, 1) := by decide +kernel
theorem d1_31 : decode prog_53_method_2_code 31 = .ok (.lload_n 0, 1) := by decide +kernel
theorem d1_32 : decode prog_53_method_2_code 32 = .ok (.lastore, 1) := by decide +kernel
theorem d1_33 : decode prog_53_method_2_code 33 = .ok (.aload 4, 2) := by decide +kernel
theorem d1_35 : decode prog_53_method_2_code 35 = .ok (.areturn, 1) := by decide +kernel
theorem ef_rm1 (m : MethodId) (x0 : Int64) (x1 : Int32) (x2 : Int32) : entryFrame m #[(.long x0), (.int x1), (.int x2)] 5 = mkF m 0 #[.val (.long x0), .second, .val (.int x1), .val (.int x2), .unset] [] := by first | (simp [entryFrame, mkF, argsToLocals, Value.category]; done) | rfl
def Q1 (Z : State) (q0 : Int64) (p1 : Int32) (p2 : Int32) (z : Int32) (h0 : Heap) (n0 : Nat) (v : Option Value) (h : Heap) (L : List Loc) : Prop := ∃ (ar : Addr) (kk : ClassId), v = some (.ref ar) ∧ Fr n0 L ∧ Keep h0 h [] ∧ h0.size ≤ ar ∧ Arv Z h ar kk .long z [(.long q0)] (.long (0 : Int64))
set_option maxRecDepth 65536 in
set_option maxHeartbeats 40000000 in
theorem rm1 (l : Launch) (Z : State) (a0 : Array Value) (hw : ∀ d ∈ tables_1, d.before a0 Z = true) (ws : List Jvm.Cond) (q0 : Int64) (p1 : Int32) (p2 : Int32) (z : Int32) (h0 : Heap) (n0 : Nat) (Z0 : n0 ≤ h0.size) (S_slots : Sta Z h0 "com/example/libthrottle/libthrottle/stat/Probe" "SLOTS" "I" (.int (4 : Int32))) (hze : p2 = (0 : Int32) → ((1 : Int32) + ((5 : Int32) * p1)) = z) (hz1 : ¬ (p2 = (0 : Int32)) → ((((1 : Int32) + p1) + (8 : Int32)) + ((4 : Int32) * (((5 : Int32) * p1) + (8 : Int32)))) = z) (hz0 : ¬ z < 0) (hzc : z.toNatClampNeg ≤ 356) (hzp : (0 : Int32) < z) :
    MetFree l (⟨"com/example/libthrottle/libthrottle/stat/Span", "make", "(JIZ)[J"⟩ : MethodName) (head1 (Jvm.Cond.code (⟨"com/example/libthrottle/libthrottle/stat/Span", "make", "(JIZ)[J"⟩ : MethodName) prog_53_method_2_code 5 (some (.array .long)) :: ws) ({ frames := 1, cells := 1, slots := 356, locals := 13 } : Room)) (fun a U => a = #[(.long q0), (.int p1), (.int p2)] ∧ Z.Warmed39 U.vm ∧ U.heap = h0) (fun _ _ _ _ _ => True) (fun _ U o U' => ∃ v L, o = .returned v ∧ Q1 Z q0 p1 p2 z h0 n0 v U'.heap L ∧ FrameEnd U o U' L ({ frames := 1, cells := 1, slots := 356, locals := 13 } : Room).cells ({ frames := 1, cells := 1, slots := 356, locals := 13 } : Room).slots) := by
  refine MetFree.of_bodySF (plainFor_of_name pn_0) hisR ?_
  intro p e s0 m args below meth c s₁ Bd hml0 hP hK
  obtain ⟨rfl, hZ, hh⟩ := hP
  have hx := Bd.exec
  have hby := Bd.bytes
  have hml : c.maxLocals = 5 := hml0
  have hown : s0.vm.findClass "com/example/libthrottle/libthrottle/stat/Span" = some m.cls := findClass_of_methodNamed Bd.named
  have hnm := (name_of_methodNamed Bd.named Bd.method).1
  have X0 : Stand p l e ({ frames := 1, cells := 1, slots := 356, locals := 13 } : Room) s0 m #[(.long q0), (.int p1), (.int p2)] below meth c s₁ [] 0 0 := Stand.of_body Bd
  have e0 : s₁.heap = h0 := by rw [← hh, Bd.state]; rfl
  have N0 := Fr.nil n0
  have pre0 : ∀ t, Steps p.tables e below (s₁.setTop (mkF m 0 #[.val (.long q0), .second, .val (.int p1), .val (.int p2), .unset] [])) t → Steps p.tables e below (s₁.setTop (entryFrame m #[(.long q0), (.int p1), (.int p2)] 5)) t := fun t k => castTop (ef_rm1 m q0 p1 p2) k
  have pre1 : ∀ t, Steps p.tables e below (s₁.setTop (mkF m 1 #[.val (.long q0), .second, .val (.int p1), .val (.int p2), .unset] [(.int p2)])) t → Steps p.tables e below (s₁.setTop (entryFrame m #[(.long q0), (.int p1), (.int p2)] 5)) t := fun t k => by
    refine pre0 t ?_
    show Steps p.tables e below (s₁.setTop (mkF m 0 #[.val (.long q0), .second, .val (.int p1), .val (.int p2), .unset] [])) _
    refine XS.iloadN X0.here hx rfl (hb hby d1_0) rfl ?_
    exact k
  by_cases hc1_2 : p2 = (0 : Int32)
  · obtain ⟨_, _, ⟨T3, L3, k3, n3⟩, -, X3, ⟨Lc3, hQ3, l3, y3, z3⟩, st3⟩ := Jvm.LawKit.callS X0 hx (y := (⟨"com/example/libthrottle/libthrottle/stat/Span", "width", "(I)I"⟩ : MethodName)) hown (mvT hZ (hw _ (List.mem_of_getElem? (i := 7) rfl))) (mvT hZ (hw _ (List.mem_of_getElem? (i := 8) rfl))) (mvT hZ (hw _ (List.mem_of_getElem? (i := 2) rfl))) (mvT hZ (hw _ (List.mem_of_getElem? (i := 9) rfl))) (by decide) (backOf (W := 1) (rm3 l Z a0 hw [] p1 h0 n0 Z0 ) hZ (hw _ (List.mem_of_getElem? (i := 9) rfl)) (hw _ (List.mem_of_getElem? (i := 2) rfl)) (by decide) (by decide)) (g := (mkF m 20 #[.val (.long q0), .second, .val (.int p1), .val (.int p2), .unset] [(.int p1), (.int (1 : Int32))])) rfl (by rw [hml]; rfl) (argsL := [(.int p1)]) (rest := [(.int (1 : Int32))]) (lenOf pd_0 rfl) rfl (by show 2 * 0 + _ ≤ _; exact Nat.le_of_eq rfl) (hb hby d1_20) (fun _ _ => ⟨rfl, e0, (by decide : 0 + 0 ≤ _), (by decide : 0 + 0 ≤ _)⟩)
    dsimp only [Pt.U, Pt.locs, Pt.cells, Pt.slots] at X3 l3 y3 z3 st3 hQ3
    subst l3 y3 z3
    obtain ⟨rfl, Nq3, hh3⟩ := hQ3
    have N3 := Fr.app N0 Nq3
    have e3 : T3.heap = h0 := hh3
    obtain ⟨T4, h4, k4, X4, e4, E4, A4, st4⟩ := newP X3 hx hZ (hw _ (List.mem_of_getElem? (i := 17) rfl)) e3 (g := (mkF m 24 #[.val (.long q0), .second, .val (.int p1), .val (.int p2), .unset] [(.int ((1 : Int32) + ((5 : Int32) * p1)))])) rfl (hb hby d1_24) rfl (by rw [hze (by assumption)]; exact hz0) (cap := 356) (by rw [hze (by assumption)]; exact hzc) (by decide) (by decide) (by decide)
    obtain ⟨b4, g4⟩ : ∃ z, z = h0.size := ⟨_, rfl⟩
    rw [← g4] at A4 st4
    have g_b4 : n0 ≤ b4 := Nat.le_trans Z0 (Nat.le_of_eq g4.symm)
    have sz_b4 : h0.size ≤ b4 := Nat.le_trans (Keep.refl h0 []).1 (Nat.le_of_eq g4.symm)
    have Z5 : n0 ≤ h4.size := Nat.le_trans Z0 E4.1
    have K4 : Keep h0 h4 [] := (Keep.refl h0 []).ext E4
    have V4 : Arv Z h4 b4 k4 .long ((1 : Int32) + ((5 : Int32) * p1)) [(.long (0 : Int64))] (.long (0 : Int64)) := (Arv.new A4 (by rw [hze (by assumption)]; exact hz0)).pad (pad_rep [] (.long (0 : Int64)) 1)
    obtain ⟨cl6, Ar6, q6, Sz6, Nz6, Hs6, Gs6⟩ := id V4
    have hin6 : ¬ ((0 : Int32) < 0 ∨ cl6.slots.size ≤ ((0 : Int32)).toNatClampNeg) := inb_of Sz6 ⟨by decide, by rw [hze hc1_2]; exact hzp⟩
    obtain ⟨T7, h7, X7, e7, W7, st7⟩ := stJ X4 hx hZ e4 Ar6 (j := (0 : Int32)) hin6 (g := (mkF m 32 #[.val (.long q0), .second, .val (.int p1), .val (.int p2), .val (.ref b4)] [(.long q0), (.int (0 : Int32)), (.ref b4)])) rfl rfl (hb hby d1_32)
    have V7 : Arv Z h7 b4 k4 .long ((1 : Int32) + ((5 : Int32) * p1)) [(.long q0)] (.long (0 : Int64)) := Arv.set Ar6 q6 Sz6 Nz6 Hs6 Gs6 rfl W7 0 rfl (Nat.le_of_ble_eq_true rfl)
    have Z8 : n0 ≤ h7.size := Nat.le_trans Z5 (Keep.of_wr W7).1
    have K7 : Keep h0 h7 [] := K4.wr W7 (Or.inr sz_b4)
    have N7 := Fr.snoc X7 N3 g_b4
    have pre9 : ∀ t, Steps p.tables e below (T7.setTop (mkF m 35 #[.val (.long q0), .second, .val (.int p1), .val (.int p2), .val (.ref b4)] [(.ref b4)])) t → Steps p.tables e below (s₁.setTop (entryFrame m #[(.long q0), (.int p1), (.int p2)] 5)) t := fun t k => by
      refine pre1 t ?_
      show Steps p.tables e below (s₁.setTop (mkF m 1 #[.val (.long q0), .second, .val (.int p1), .val (.int p2), .unset] [(.int p2)])) _
      refine XS.ifYes X0.here hx rfl (pc0 := 1) (pc' := 18) rfl (hb hby d1_1) rfl ((if0 _ _).trans (teq hc1_2).1) (by decide) (by decide) ?_
      show Steps p.tables e below (s₁.setTop (mkF m 18 #[.val (.long q0), .second, .val (.int p1), .val (.int p2), .unset] [])) _
      refine XS.iconst X0.here hx rfl (hb hby d1_18) ?_
      show Steps p.tables e below (s₁.setTop (mkF m 19 #[.val (.long q0), .second, .val (.int p1), .val (.int p2), .unset] [(.int (1 : Int32))])) _
      refine XS.iloadN X0.here hx rfl (hb hby d1_19) rfl ?_
      show Steps p.tables e below (s₁.setTop (mkF m 20 #[.val (.long q0), .second, .val (.int p1), .val (.int p2), .unset] [(.int p1), (.int (1 : Int32))])) _
      refine st3 _ ?_
      show Steps p.tables e below (T3.setTop (mkF m 23 #[.val (.long q0), .second, .val (.int p1), .val (.int p2), .unset] [(.int ((5 : Int32) * p1)), (.int (1 : Int32))])) _
      refine XS.iadd X3.here hx rfl (hb hby d1_23) rfl ?_
      show Steps p.tables e below (T3.setTop (mkF m 24 #[.val (.long q0), .second, .val (.int p1), .val (.int p2), .unset] [(.int ((1 : Int32) + ((5 : Int32) * p1)))])) _
      refine st4 _ ?_
      show Steps p.tables e below (T4.setTop (mkF m 26 #[.val (.long q0), .second, .val (.int p1), .val (.int p2), .unset] [(.ref b4)])) _
      refine XS.astore X4.here hx rfl (hb hby d1_26) rfl rfl (l' := #[.val (.long q0), .second, .val (.int p1), .val (.int p2), .val (.ref b4)]) rfl ?_
      show Steps p.tables e below (T4.setTop (mkF m 28 #[.val (.long q0), .second, .val (.int p1), .val (.int p2), .val (.ref b4)] [])) _
      refine XS.aload X4.here hx rfl (hb hby d1_28) rfl rfl ?_
      show Steps p.tables e below (T4.setTop (mkF m 30 #[.val (.long q0), .second, .val (.int p1), .val (.int p2), .val (.ref b4)] [(.ref b4)])) _
      refine XS.iconst X4.here hx rfl (hb hby d1_30) ?_
      show Steps p.tables e below (T4.setTop (mkF m 31 #[.val (.long q0), .second, .val (.int p1), .val (.int p2), .val (.ref b4)] [(.int (0 : Int32)), (.ref b4)])) _
      refine XS.lloadN X4.here hx rfl (hb hby d1_31) rfl ?_
      show Steps p.tables e below (T4.setTop (mkF m 32 #[.val (.long q0), .second, .val (.int p1), .val (.int p2), .val (.ref b4)] [(.long q0), (.int (0 : Int32)), (.ref b4)])) _
      refine st7 _ ?_
      show Steps p.tables e below (T7.setTop (mkF m 33 #[.val (.long q0), .second, .val (.int p1), .val (.int p2), .val (.ref b4)] [])) _
      refine XS.aload X7.here hx rfl (hb hby d1_33) rfl rfl ?_
      exact k
    obtain ⟨fs, hrq, hrun, hended, hW, hsame⟩ := X7.leave (v := some (.ref b4)) (fun h => by rw [Bd.returns] at h; cases h)
    refine ⟨_, _, pre9 _ ?_, hrun, hended, _, _, rfl, ?_, ⟨_, rfl⟩, hW, hsame.mono (by decide) (by decide)⟩
    · show Steps p.tables e below (T7.setTop (mkF m 35 #[.val (.long q0), .second, .val (.int p1), .val (.int p2), .val (.ref b4)] [(.ref b4)])) _
      exact retOut X7 hx Bd.returns rfl (Or.inr (Or.inr (Or.inr (Or.inr ⟨rfl, rfl, rfl⟩)))) (hb hby d1_35) hrq
    · show Q1 Z q0 p1 p2 z h0 n0 _ T7.heap _
      rw [e7]
      exact ⟨_, _, rfl, N7, K7, sz_b4, by rw [← hze hc1_2]; exact V7⟩
  · obtain ⟨_, _, ⟨T10, L10, k10, n10⟩, -, X10, ⟨Lc10, hQ10, l10, y10, z10⟩, st10⟩ := Jvm.LawKit.callS X0 hx (y := (⟨"com/example/libthrottle/libthrottle/stat/Span", "lead", "(I)I"⟩ : MethodName)) hown (mvT hZ (hw _ (List.mem_of_getElem? (i := 4) rfl))) (mvT hZ (hw _ (List.mem_of_getElem? (i := 5) rfl))) (mvT hZ (hw _ (List.mem_of_getElem? (i := 2) rfl))) (mvT hZ (hw _ (List.mem_of_getElem? (i := 6) rfl))) (by decide) (backOf (W := 0) (rm2 l Z a0 hw [] p1 h0 n0 Z0 ) hZ (hw _ (List.mem_of_getElem? (i := 6) rfl)) (hw _ (List.mem_of_getElem? (i := 2) rfl)) (by decide) (by decide)) (g := (mkF m 5 #[.val (.long q0), .second, .val (.int p1), .val (.int p2), .unset] [(.int p1)])) rfl (by rw [hml]; rfl) (argsL := [(.int p1)]) (rest := []) (lenOf pd_0 rfl) rfl (by show 2 * 0 + _ ≤ _; exact Nat.le_of_eq rfl) (hb hby d1_5) (fun _ _ => ⟨rfl, e0, (by decide : 0 + 0 ≤ _), (by decide : 0 + 0 ≤ _)⟩)
    dsimp only [Pt.U, Pt.locs, Pt.cells, Pt.slots] at X10 l10 y10 z10 st10 hQ10
    subst l10 y10 z10
    obtain ⟨rfl, Nq10, hh10⟩ := hQ10
    have N10 := Fr.app N0 Nq10
    have e10 : T10.heap = h0 := hh10
    obtain ⟨_, _, ⟨T11, L11, k11, n11⟩, -, X11, ⟨Lc11, hQ11, l11, y11, z11⟩, st11⟩ := Jvm.LawKit.callS X10 hx (y := (⟨"com/example/libthrottle/libthrottle/stat/Span", "width", "(I)I"⟩ : MethodName)) hown (mvT hZ (hw _ (List.mem_of_getElem? (i := 7) rfl))) (mvT hZ (hw _ (List.mem_of_getElem? (i := 8) rfl))) (mvT hZ (hw _ (List.mem_of_getElem? (i := 2) rfl))) (mvT hZ (hw _ (List.mem_of_getElem? (i := 9) rfl))) (by decide) (backOf (W := 1) (rm3 l Z a0 hw [] p1 h0 n0 Z0 ) hZ (hw _ (List.mem_of_getElem? (i := 9) rfl)) (hw _ (List.mem_of_getElem? (i := 2) rfl)) (by decide) (by decide)) (g := (mkF m 9 #[.val (.long q0), .second, .val (.int p1), .val (.int p2), .unset] [(.int p1), (.int ((1 : Int32) + p1))])) rfl (by rw [hml]; rfl) (argsL := [(.int p1)]) (rest := [(.int ((1 : Int32) + p1))]) (lenOf pd_0 rfl) rfl (by show 2 * 0 + _ ≤ _; exact Nat.le_of_eq rfl) (hb hby d1_9) (fun _ _ => ⟨rfl, e10, (by decide : 0 + 0 ≤ _), (by decide : 0 + 0 ≤ _)⟩)
    dsimp only [Pt.U, Pt.locs, Pt.cells, Pt.slots] at X11 l11 y11 z11 st11 hQ11
    subst l11 y11 z11
    obtain ⟨rfl, Nq11, hh11⟩ := hQ11
    have N11 := Fr.app N10 Nq11
    have e11 : T11.heap = h0 := hh11
    obtain ⟨_, _, ⟨T12, L12, k12, n12⟩, -, X12, ⟨Lc12, hQ12, l12, y12, z12⟩, st12⟩ := Jvm.LawKit.callS X11 hx (y := (⟨"com/example/libthrottle/libthrottle/stat/Cells", "inRows", "(II)[J"⟩ : MethodName)) hown (mvT hZ (hw _ (List.mem_of_getElem? (i := 10) rfl))) (mvT hZ (hw _ (List.mem_of_getElem? (i := 11) rfl))) (mvT hZ (hw _ (List.mem_of_getElem? (i := 12) rfl))) (mvT hZ (hw _ (List.mem_of_getElem? (i := 13) rfl))) (by decide) (backOf (W := 0) (rm4 l Z a0 hw [] ((1 : Int32) + p1) ((5 : Int32) * p1) z h0 n0 Z0 S_slots (hz1 hc1_2) hz0 hzc) hZ (hw _ (List.mem_of_getElem? (i := 13) rfl)) (hw _ (List.mem_of_getElem? (i := 12) rfl)) (by decide) (by decide)) (g := (mkF m 12 #[.val (.long q0), .second, .val (.int p1), .val (.int p2), .unset] [(.int ((5 : Int32) * p1)), (.int ((1 : Int32) + p1))])) rfl (by rw [hml]; rfl) (argsL := [(.int ((1 : Int32) + p1)), (.int ((5 : Int32) * p1))]) (rest := []) (lenOf pd_1 rfl) rfl (by show 2 * 0 + _ ≤ _; exact Nat.le_of_eq rfl) (hb hby d1_12) (fun _ _ => ⟨rfl, e11, (by decide : 0 + 1 ≤ _), (by decide : 0 + 356 ≤ _)⟩)
    dsimp only [Pt.U, Pt.locs, Pt.cells, Pt.slots] at X12 l12 y12 z12 st12 hQ12
    subst l12 y12 z12
    obtain ⟨ar12, kk12, rfl, Nq12, Kq12, hs12, Vq12⟩ := hQ12
    have N12 := Fr.app N11 Nq12
    have Z13 : n0 ≤ T12.heap.size := Nat.le_trans Z0 Kq12.1
    have K14 : Keep h0 T12.heap [] := (Keep.refl h0 []).trans Kq12 all0
    have g_ar12 : n0 ≤ ar12 := Nat.le_trans Z0 hs12
    have sz_ar12 : h0.size ≤ ar12 := Nat.le_trans (Keep.refl h0 []).1 hs12
    obtain ⟨cl15, Ar15, q15, Sz15, Nz15, Hs15, Gs15⟩ := id Vq12
    have hin15 : ¬ ((0 : Int32) < 0 ∨ cl15.slots.size ≤ ((0 : Int32)).toNatClampNeg) := inb_of Sz15 ⟨by decide, hzp⟩
    obtain ⟨T16, h16, X16, e16, W16, st16⟩ := stJ X12 hx hZ rfl Ar15 (j := (0 : Int32)) hin15 (g := (mkF m 32 #[.val (.long q0), .second, .val (.int p1), .val (.int p2), .val (.ref ar12)] [(.long q0), (.int (0 : Int32)), (.ref ar12)])) rfl rfl (hb hby d1_32)
    have V16 : Arv Z h16 ar12 kk12 .long z [(.long q0)] (.long (0 : Int64)) := Arv.set Ar15 q15 Sz15 Nz15 Hs15 Gs15 rfl W16 0 rfl (Nat.le_of_ble_eq_true rfl)
    have Z17 : n0 ≤ h16.size := Nat.le_trans Z13 (Keep.of_wr W16).1
    have K16 : Keep h0 h16 [] := K14.wr W16 (Or.inr sz_ar12)
    have N16 := Fr.snoc X16 N12 g_ar12
    have pre18 : ∀ t, Steps p.tables e below (T16.setTop (mkF m 35 #[.val (.long q0), .second, .val (.int p1), .val (.int p2), .val (.ref ar12)] [(.ref ar12)])) t → Steps p.tables e below (s₁.setTop (entryFrame m #[(.long q0), (.int p1), (.int p2)] 5)) t := fun t k => by
      refine pre1 t ?_
      show Steps p.tables e below (s₁.setTop (mkF m 1 #[.val (.long q0), .second, .val (.int p1), .val (.int p2), .unset] [(.int p2)])) _
      refine XS.ifNo X0.here hx rfl (hb hby d1_1) rfl ((if0 _ _).trans (feq hc1_2).1) ?_
      show Steps p.tables e below (s₁.setTop (mkF m 4 #[.val (.long q0), .second, .val (.int p1), .val (.int p2), .unset] [])) _
      refine XS.iloadN X0.here hx rfl (hb hby d1_4) rfl ?_
      show Steps p.tables e below (s₁.setTop (mkF m 5 #[.val (.long q0), .second, .val (.int p1), .val (.int p2), .unset] [(.int p1)])) _
      refine st10 _ ?_
      show Steps p.tables e below (T10.setTop (mkF m 8 #[.val (.long q0), .second, .val (.int p1), .val (.int p2), .unset] [(.int ((1 : Int32) + p1))])) _
      refine XS.iloadN X10.here hx rfl (hb hby d1_8) rfl ?_
      show Steps p.tables e below (T10.setTop (mkF m 9 #[.val (.long q0), .second, .val (.int p1), .val (.int p2), .unset] [(.int p1), (.int ((1 : Int32) + p1))])) _
      refine st11 _ ?_
      show Steps p.tables e below (T11.setTop (mkF m 12 #[.val (.long q0), .second, .val (.int p1), .val (.int p2), .unset] [(.int ((5 : Int32) * p1)), (.int ((1 : Int32) + p1))])) _
      refine st12 _ ?_
      show Steps p.tables e below (T12.setTop (mkF m 15 #[.val (.long q0), .second, .val (.int p1), .val (.int p2), .unset] [(.ref ar12)])) _
      refine XS.goto X12.here hx rfl (pc0 := 15) (pc' := 26) rfl (hb hby d1_15) (by decide) (by decide) ?_
      show Steps p.tables e below (T12.setTop (mkF m 26 #[.val (.long q0), .second, .val (.int p1), .val (.int p2), .unset] [(.ref ar12)])) _
      refine XS.astore X12.here hx rfl (hb hby d1_26) rfl rfl (l' := #[.val (.long q0), .second, .val (.int p1), .val (.int p2), .val (.ref ar12)]) rfl ?_
      show Steps p.tables e below (T12.setTop (mkF m 28 #[.val (.long q0), .second, .val (.int p1), .val (.int p2), .val (.ref ar12)] [])) _
      refine XS.aload X12.here hx rfl (hb hby d1_28) rfl rfl ?_
      show Steps p.tables e below (T12.setTop (mkF m 30 #[.val (.long q0), .second, .val (.int p1), .val (.int p2), .val (.ref ar12)] [(.ref ar12)])) _
      refine XS.iconst X12.here hx rfl (hb hby d1_30) ?_
      show Steps p.tables e below (T12.setTop (mkF m 31 #[.val (.long q0), .second, .val (.int p1), .val (.int p2), .val (.ref ar12)] [(.int (0 : Int32)), (.ref ar12)])) _
      refine XS.lloadN X12.here hx rfl (hb hby d1_31) rfl ?_
      show Steps p.tables e below (T12.setTop (mkF m 32 #[.val (.long q0), .second, .val (.int p1), .val (.int p2), .val (.ref ar12)] [(.long q0), (.int (0 : Int32)), (.ref ar12)])) _
      refine st16 _ ?_
      show Steps p.tables e below (T16.setTop (mkF m 33 #[.val (.long q0), .second, .val (.int p1), .val (.int p2), .val (.ref ar12)] [])) _
      refine XS.aload X16.here hx rfl (hb hby d1_33) rfl rfl ?_
      exact k
    obtain ⟨fs, hrq, hrun, hended, hW, hsame⟩ := X16.leave (v := some (.ref ar12)) (fun h => by rw [Bd.returns] at h; cases h)
    refine ⟨_, _, pre18 _ ?_, hrun, hended, _, _, rfl, ?_, ⟨_, rfl⟩, hW, hsame.mono (by decide) (by decide)⟩
    · show Steps p.tables e below (T16.setTop (mkF m 35 #[.val (.long q0), .second, .val (.int p1), .val (.int p2), .val (.ref ar12)] [(.ref ar12)])) _
      exact retOut X16 hx Bd.returns rfl (Or.inr (Or.inr (Or.inr (Or.inr ⟨rfl, rfl, rfl⟩)))) (hb hby d1_35) hrq
    · show Q1 Z q0 p1 p2 z h0 n0 _ T16.heap _
      rw [e16]
      exact ⟨_, _, rfl, N16, K16, sz_ar12, V16⟩
theorem d5_0 : decode prog_53_method_4_code 0 = .ok (.aload_n 0, 1) := by decide +kernel
theorem d5_1 : decode prog_53_method_4_code 1 = .ok (.arraylength, 1) := by decide +kernel
theorem d5_2 : decode prog_53_method_4_code 2 = .ok (.iconst 1, 1) := by decide +kernel
theorem d5_3 : decode prog_53_method_4_code 3 = .ok (.iload_n 1, 1) := by decide +kernel
theorem d5_4 : decode prog_53_method_4_code 4 = .ok (.invokestatic 15, 3) := by decide +kernel
theorem d5_7 : decode prog_53_method_4_code 7 = .ok (.iadd, 1) := by decide +kernel
theorem d5_8 : decode prog_53_method_4_code 8 = .ok (.if_icmp .eq 7, 3) := by decide +kernel
theorem d5_11 : decode prog_53_method_4_code 11 = .ok (.iconst 1, 1) := by decide +kernel
theorem d5_12 : decode prog_53_method_4_code 12 = .ok (.goto 4, 3) := by decide +kernel
theorem d5_15 : decode prog_53_method_4_code 15 = .ok (.iconst 0, 1) := by decide +kernel
theorem d5_16 : decode prog_53_method_4_code 16 = .ok (.ireturn, 1) := by decide +kernel
theorem ef_rm5 (m : MethodId) (x0 : Addr) (x1 : Int32) : entryFrame m #[(.ref x0), (.int x1)] 2 = mkF m 0 #[.val (.ref x0), .val (.int x1)] [] := by first | (simp [entryFrame, mkF, argsToLocals, Value.category]; done) | rfl
def Q5 (Z : State) (ar : Addr) (p1 : Int32) (kk : ClassId) (z : Int32) (vs : List Value) (dv : Value) (r : Int32) (h0 : Heap) (n0 : Nat) (v : Option Value) (h : Heap) (L : List Loc) : Prop := v = some (.int r) ∧ Fr n0 L ∧ h = h0
set_option maxRecDepth 65536 in
set_option maxHeartbeats 40000000 in
theorem rm5 (l : Launch) (Z : State) (a0 : Array Value) (hw : ∀ d ∈ tables_1, d.before a0 Z = true) (ws : List Jvm.Cond) (ar : Addr) (p1 : Int32) (kk : ClassId) (z : Int32) (vs : List Value) (dv : Value) (r : Int32) (h0 : Heap) (n0 : Nat) (Z0 : n0 ≤ h0.size) (V_ar : Arv Z h0 ar kk .long z vs dv) (hr : (if z = ((1 : Int32) + ((5 : Int32) * p1)) then (0 : Int32) else (1 : Int32)) = r) :
    MetFree l (⟨"com/example/libthrottle/libthrottle/stat/Span", "inRows", "([JI)Z"⟩ : MethodName) (head1 (Jvm.Cond.code (⟨"com/example/libthrottle/libthrottle/stat/Span", "inRows", "([JI)Z"⟩ : MethodName) prog_53_method_4_code 2 (some .boolean) :: ws) ({ frames := 1, cells := 0, slots := 0, locals := 14 } : Room)) (fun a U => a = #[(.ref ar), (.int p1)] ∧ Z.Warmed39 U.vm ∧ U.heap = h0) (fun _ _ _ _ _ => True) (fun _ U o U' => ∃ v L, o = .returned v ∧ Q5 Z ar p1 kk z vs dv r h0 n0 v U'.heap L ∧ FrameEnd U o U' L ({ frames := 1, cells := 0, slots := 0, locals := 14 } : Room).cells ({ frames := 1, cells := 0, slots := 0, locals := 14 } : Room).slots) := by
  refine MetFree.of_bodySF (plainFor_of_name pn_0) hisR ?_
  intro p e s0 m args below meth c s₁ Bd hml0 hP hK
  obtain ⟨rfl, hZ, hh⟩ := hP
  have hx := Bd.exec
  have hby := Bd.bytes
  have hml : c.maxLocals = 2 := hml0
  have hown : s0.vm.findClass "com/example/libthrottle/libthrottle/stat/Span" = some m.cls := findClass_of_methodNamed Bd.named
  have hnm := (name_of_methodNamed Bd.named Bd.method).1
  have X0 : Stand p l e ({ frames := 1, cells := 0, slots := 0, locals := 14 } : Room) s0 m #[(.ref ar), (.int p1)] below meth c s₁ [] 0 0 := Stand.of_body Bd
  have e0 : s₁.heap = h0 := by rw [← hh, Bd.state]; rfl
  have N0 := Fr.nil n0
  have pre0 : ∀ t, Steps p.tables e below (s₁.setTop (mkF m 0 #[.val (.ref ar), .val (.int p1)] [])) t → Steps p.tables e below (s₁.setTop (entryFrame m #[(.ref ar), (.int p1)] 2)) t := fun t k => castTop (ef_rm5 m ar p1) k
  obtain ⟨cl1, Ar1, -, Sz1, Nz1, -, -⟩ := id V_ar
  obtain ⟨_, _, ⟨T2, L2, k2, n2⟩, -, X2, ⟨Lc2, hQ2, l2, y2, z2⟩, st2⟩ := Jvm.LawKit.callS X0 hx (y := (⟨"com/example/libthrottle/libthrottle/stat/Span", "width", "(I)I"⟩ : MethodName)) hown (mvT hZ (hw _ (List.mem_of_getElem? (i := 7) rfl))) (mvT hZ (hw _ (List.mem_of_getElem? (i := 8) rfl))) (mvT hZ (hw _ (List.mem_of_getElem? (i := 2) rfl))) (mvT hZ (hw _ (List.mem_of_getElem? (i := 9) rfl))) (by decide) (backOf (W := 2) (rm3 l Z a0 hw [] p1 h0 n0 Z0 ) hZ (hw _ (List.mem_of_getElem? (i := 9) rfl)) (hw _ (List.mem_of_getElem? (i := 2) rfl)) (by decide) (by decide)) (g := (mkF m 4 #[.val (.ref ar), .val (.int p1)] [(.int p1), (.int (1 : Int32)), (.int z)])) rfl (by rw [hml]; rfl) (argsL := [(.int p1)]) (rest := [(.int (1 : Int32)), (.int z)]) (lenOf pd_0 rfl) rfl (by show 2 * 0 + _ ≤ _; exact Nat.le_of_eq rfl) (hb hby d5_4) (fun _ _ => ⟨rfl, e0, (by decide : 0 + 0 ≤ _), (by decide : 0 + 0 ≤ _)⟩)
  dsimp only [Pt.U, Pt.locs, Pt.cells, Pt.slots] at X2 l2 y2 z2 st2 hQ2
  subst l2 y2 z2
  obtain ⟨rfl, Nq2, hh2⟩ := hQ2
  have N2 := Fr.app N0 Nq2
  have e2 : T2.heap = h0 := hh2
  have pre3 : ∀ t, Steps p.tables e below (T2.setTop (mkF m 16 #[.val (.ref ar), .val (.int p1)] [(.int (if z = ((1 : Int32) + ((5 : Int32) * p1)) then (0 : Int32) else (1 : Int32)))])) t → Steps p.tables e below (s₁.setTop (entryFrame m #[(.ref ar), (.int p1)] 2)) t := fun t k => by
    refine pre0 t ?_
    show Steps p.tables e below (s₁.setTop (mkF m 0 #[.val (.ref ar), .val (.int p1)] [])) _
    refine XS.aloadN X0.here hx rfl (hb hby d5_0) rfl rfl ?_
    show Steps p.tables e below (s₁.setTop (mkF m 1 #[.val (.ref ar), .val (.int p1)] [(.ref ar)])) _
    refine X0.arraylength hx (by rw [e0]; exact Ar1.1) (State.isArrayOf_alike hZ.alike Ar1.2.1) (g := (mkF m 1 #[.val (.ref ar), .val (.int p1)] [(.ref ar)])) rfl rfl (hb hby d5_1) _ ?_
    rw [len_of Sz1 Nz1]
    show Steps p.tables e below (s₁.setTop (mkF m 2 #[.val (.ref ar), .val (.int p1)] [(.int z)])) _
    refine XS.iconst X0.here hx rfl (hb hby d5_2) ?_
    show Steps p.tables e below (s₁.setTop (mkF m 3 #[.val (.ref ar), .val (.int p1)] [(.int (1 : Int32)), (.int z)])) _
    refine XS.iloadN X0.here hx rfl (hb hby d5_3) rfl ?_
    show Steps p.tables e below (s₁.setTop (mkF m 4 #[.val (.ref ar), .val (.int p1)] [(.int p1), (.int (1 : Int32)), (.int z)])) _
    refine st2 _ ?_
    show Steps p.tables e below (T2.setTop (mkF m 7 #[.val (.ref ar), .val (.int p1)] [(.int ((5 : Int32) * p1)), (.int (1 : Int32)), (.int z)])) _
    refine XS.iadd X2.here hx rfl (hb hby d5_7) rfl ?_
    show Steps p.tables e below (T2.setTop (mkF m 8 #[.val (.ref ar), .val (.int p1)] [(.int ((1 : Int32) + ((5 : Int32) * p1))), (.int z)])) _
    refine own_boolC (g := (mkF m 8 #[.val (.ref ar), .val (.int p1)] [(.int ((1 : Int32) + ((5 : Int32) * p1))), (.int z)])) X2.here hx rfl (hb hby d5_8) (hb hby d5_11) (hb hby d5_12) (hb hby d5_15) rfl (by exact own_b_eq _ _) ?_
    exact k
  obtain ⟨fs, hrq, hrun, hended, hW, hsame⟩ := X2.leave (v := some (.int (if z = ((1 : Int32) + ((5 : Int32) * p1)) then (0 : Int32) else (1 : Int32)))) (fun h => by rw [Bd.returns] at h; cases h)
  refine ⟨_, _, pre3 _ ?_, hrun, hended, _, _, rfl, ?_, ⟨_, rfl⟩, hW, hsame.mono (by decide) (by decide)⟩
  · show Steps p.tables e below (T2.setTop (mkF m 16 #[.val (.ref ar), .val (.int p1)] [(.int (if z = ((1 : Int32) + ((5 : Int32) * p1)) then (0 : Int32) else (1 : Int32)))])) _
    exact own_retN X2 hx (t := .boolean) Bd.returns (by simp) (hb hby d5_16) (own_nar_if (by decide) (by decide)) hrq
  · show Q5 Z ar p1 kk z vs dv r h0 n0 _ T2.heap _
    rw [e2]
    exact ⟨by rw [hr], N2, rfl⟩
theorem pd_2 : parseMethodDescriptor "(JIZ)[J" = some ⟨[.long, .int, .boolean], some (.array .long)⟩ := by decide +kernel
theorem pd_3 : parseMethodDescriptor "([JI)Z" = some ⟨[(.array .long), .int], some .boolean⟩ := by decide +kernel
theorem pd_4 : parseMethodDescriptor "(II)I" = some ⟨[.int, .int], some .int⟩ := by decide +kernel
theorem ef_rm0 (m : MethodId) (x0 : Int64) (x1 : Int32) (x2 : Int32) (x3 : Int32) : entryFrame m #[(.long x0), (.int x1), (.int x2), (.int x3)] maxLocals = mkF m 0 #[.val (.long x0), .second, .val (.int x1), .val (.int x2), .val (.int x3), .unset, .unset, .unset, .unset, .unset, .unset, .unset, .unset] [] := by first | (simp [entryFrame, mkF, argsToLocals, Value.category, maxLocals]; done) | rfl
theorem pn_2 : plainName "com/example/libthrottle/libthrottle/stat/SpanInRowsPinLaw" = true := by first | (simp [plainName, overriddenIn]; done) | decide +kernel
def Q0 (Z : State) (q0 : Int64) (p1 : Int32) (p2 : Int32) (p3 : Int32) (h0 : Heap) (n0 : Nat) (v : Option Value) (h : Heap) (L : List Loc) : Prop := v = some (.int 1) ∧ Fr n0 L
set_option maxRecDepth 65536 in
set_option maxHeartbeats 40000000 in
theorem rm0 (l : Launch) (Z : State) (a0 : Array Value) (hw : ∀ d ∈ tables_1, d.before a0 Z = true) (ws : List Jvm.Cond) (q0 : Int64) (p1 : Int32) (p2 : Int32) (p3 : Int32) (h0 : Heap) (n0 : Nat) (Z0 : n0 ≤ h0.size) (S_slots : Sta Z h0 "com/example/libthrottle/libthrottle/stat/Probe" "SLOTS" "I" (.int (4 : Int32))) :
    MetFree l x (head1 (Jvm.Cond.code x code maxLocals ret :: ws) room_1) (fun a U => a = #[(.long q0), (.int p1), (.int p2), (.int p3)] ∧ Z.Warmed39 U.vm ∧ U.heap = h0) (fun _ _ _ _ _ => True) (fun _ U o U' => ∃ v L, o = .returned v ∧ Q0 Z q0 p1 p2 p3 h0 n0 v U'.heap L ∧ FrameEnd U o U' L room_1.cells room_1.slots) := by
  refine MetFree.of_bodySF (plainFor_of_name pn_2) hisR ?_
  intro p e s0 m args below meth c s₁ Bd hml0 hP hK
  obtain ⟨rfl, hZ, hh⟩ := hP
  have hx := Bd.exec
  have hby := Bd.bytes
  have hml : c.maxLocals = 13 := hml0
  have hown : s0.vm.findClass "com/example/libthrottle/libthrottle/stat/SpanInRowsPinLaw" = some m.cls := findClass_of_methodNamed Bd.named
  have hnm := (name_of_methodNamed Bd.named Bd.method).1
  have X0 : Stand p l e room_1 s0 m #[(.long q0), (.int p1), (.int p2), (.int p3)] below meth c s₁ [] 0 0 := Stand.of_body Bd
  have e0 : s₁.heap = h0 := by rw [← hh, Bd.state]; rfl
  have N0 := Fr.nil n0
  have pre0 : ∀ t, Steps p.tables e below (s₁.setTop (mkF m 0 #[.val (.long q0), .second, .val (.int p1), .val (.int p2), .val (.int p3), .unset, .unset, .unset, .unset, .unset, .unset, .unset, .unset] [])) t → Steps p.tables e below (s₁.setTop (entryFrame m #[(.long q0), (.int p1), (.int p2), (.int p3)] maxLocals)) t := fun t k => castTop (ef_rm0 m q0 p1 p2 p3) k
  obtain ⟨T1, bb, Lx1, X1, e1, N1, hb0, hb1, pre1⟩ : ∃ (T1 : State) (bb : Int32) (Lx1 : List Loc), Stand p l e room_1 s0 m #[(.long q0), (.int p1), (.int p2), (.int p3)] below meth c T1 Lx1 0 0 ∧ T1.heap = h0 ∧ Fr n0 Lx1 ∧ (0 ≤ bb.toInt) ∧ (bb.toInt ≤ 15) ∧ (∀ t, Steps p.tables e below (T1.setTop (mkF m 4 #[.val (.long q0), .second, .val (.int p1), .val (.int p2), .val (.int p3), .unset, .unset, .unset, .unset, .unset, .unset, .unset, .unset] [(.int bb)])) t → Steps p.tables e below (s₁.setTop (entryFrame m #[(.long q0), (.int p1), (.int p2), (.int p3)] maxLocals)) t) := by
    have pre2 : ∀ t, Steps p.tables e below (s₁.setTop (mkF m 4 #[.val (.long q0), .second, .val (.int p1), .val (.int p2), .val (.int p3), .unset, .unset, .unset, .unset, .unset, .unset, .unset, .unset] [(.int (p1 &&& (15 : Int32)))])) t → Steps p.tables e below (s₁.setTop (entryFrame m #[(.long q0), (.int p1), (.int p2), (.int p3)] maxLocals)) t := fun t k => by
      refine pre0 t ?_
      show Steps p.tables e below (s₁.setTop (mkF m 0 #[.val (.long q0), .second, .val (.int p1), .val (.int p2), .val (.int p3), .unset, .unset, .unset, .unset, .unset, .unset, .unset, .unset] [])) _
      refine XS.iloadN X0.here hx rfl (hb hby at_0) rfl ?_
      show Steps p.tables e below (s₁.setTop (mkF m 1 #[.val (.long q0), .second, .val (.int p1), .val (.int p2), .val (.int p3), .unset, .unset, .unset, .unset, .unset, .unset, .unset, .unset] [(.int p1)])) _
      refine XS.bipush X0.here hx rfl (hb hby at_1) ?_
      show Steps p.tables e below (s₁.setTop (mkF m 3 #[.val (.long q0), .second, .val (.int p1), .val (.int p2), .val (.int p3), .unset, .unset, .unset, .unset, .unset, .unset, .unset, .unset] [(.int (15 : Int32)), (.int p1)])) _
      refine XS.iand X0.here hx rfl (hb hby at_3) rfl ?_
      exact k
    exact ⟨s₁, (p1 &&& (15 : Int32)), _, X0, e0, N0, (own_m15 p1).1, (own_m15 p1).2, pre2⟩
  have pre3 : ∀ t, Steps p.tables e below (T1.setTop (mkF m 9 #[.val (.long q0), .second, .val (.int p1), .val (.int p2), .val (.int p3), .val (.int bb), .unset, .unset, .unset, .unset, .unset, .unset, .unset] [(.int (p2 &&& (1 : Int32)))])) t → Steps p.tables e below (s₁.setTop (entryFrame m #[(.long q0), (.int p1), (.int p2), (.int p3)] maxLocals)) t := fun t k => by
    refine pre1 t ?_
    show Steps p.tables e below (T1.setTop (mkF m 4 #[.val (.long q0), .second, .val (.int p1), .val (.int p2), .val (.int p3), .unset, .unset, .unset, .unset, .unset, .unset, .unset, .unset] [(.int bb)])) _
    refine XS.istore X1.here hx rfl (hb hby at_4) rfl (l' := #[.val (.long q0), .second, .val (.int p1), .val (.int p2), .val (.int p3), .val (.int bb), .unset, .unset, .unset, .unset, .unset, .unset, .unset]) rfl ?_
    show Steps p.tables e below (T1.setTop (mkF m 6 #[.val (.long q0), .second, .val (.int p1), .val (.int p2), .val (.int p3), .val (.int bb), .unset, .unset, .unset, .unset, .unset, .unset, .unset] [])) _
    refine XS.iloadN X1.here hx rfl (hb hby at_6) rfl ?_
    show Steps p.tables e below (T1.setTop (mkF m 7 #[.val (.long q0), .second, .val (.int p1), .val (.int p2), .val (.int p3), .val (.int bb), .unset, .unset, .unset, .unset, .unset, .unset, .unset] [(.int p2)])) _
    refine XS.iconst X1.here hx rfl (hb hby at_7) ?_
    show Steps p.tables e below (T1.setTop (mkF m 8 #[.val (.long q0), .second, .val (.int p1), .val (.int p2), .val (.int p3), .val (.int bb), .unset, .unset, .unset, .unset, .unset, .unset, .unset] [(.int (1 : Int32)), (.int p2)])) _
    refine XS.iand X1.here hx rfl (hb hby at_8) rfl ?_
    exact k
  by_cases hc9_4 : (p2 &&& (1 : Int32)) = (0 : Int32)
  · obtain ⟨_, _, ⟨T5, L5, k5, n5⟩, -, X5, ⟨Lc5, hQ5, l5, y5, z5⟩, st5⟩ := Jvm.LawKit.callS X1 hx (y := (⟨"com/example/libthrottle/libthrottle/stat/Span", "make", "(JIZ)[J"⟩ : MethodName)) hown (mvT hZ (hw _ (List.mem_of_getElem? (i := 0) rfl))) (mvT hZ (hw _ (List.mem_of_getElem? (i := 1) rfl))) (mvT hZ (hw _ (List.mem_of_getElem? (i := 2) rfl))) (mvT hZ (hw _ (List.mem_of_getElem? (i := 3) rfl))) (by decide) (backOf (W := 0) (rm1 l Z a0 hw [] q0 bb (0 : Int32) ((1 : Int32) + ((5 : Int32) * bb)) h0 n0 Z0 S_slots (fun _ => rfl) (fun h => absurd rfl h) (own_y0 hb0 hb1) (own_yc hb0 hb1) (own_yp hb0 hb1)) hZ (hw _ (List.mem_of_getElem? (i := 3) rfl)) (hw _ (List.mem_of_getElem? (i := 2) rfl)) (by decide) (by decide)) (g := (mkF m 24 #[.val (.long q0), .second, .val (.int p1), .val (.int p2), .val (.int p3), .val (.int bb), .val (.int (0 : Int32)), .unset, .unset, .unset, .unset, .unset, .unset] [(.int (0 : Int32)), (.int bb), (.long q0)])) rfl (by rw [hml]; rfl) (argsL := [(.long q0), (.int bb), (.int (0 : Int32))]) (rest := []) (lenOf pd_2 rfl) rfl (by show 2 * 0 + _ ≤ _; exact Nat.le_of_eq rfl) (hb hby at_24) (fun _ _ => ⟨rfl, e1, (by decide : 0 + 1 ≤ _), (by decide : 0 + 356 ≤ _)⟩)
    dsimp only [Pt.U, Pt.locs, Pt.cells, Pt.slots] at X5 l5 y5 z5 st5 hQ5
    subst l5 y5 z5
    obtain ⟨ar5, kk5, rfl, Nq5, Kq5, hs5, Vq5⟩ := hQ5
    have N5 := Fr.app N1 Nq5
    have Z6 : n0 ≤ T5.heap.size := Nat.le_trans Z0 Kq5.1
    obtain ⟨_, _, ⟨T7, L7, k7, n7⟩, -, X7, ⟨Lc7, hQ7, l7, y7, z7⟩, st7⟩ := Jvm.LawKit.callS X5 hx (y := (⟨"com/example/libthrottle/libthrottle/stat/Span", "inRows", "([JI)Z"⟩ : MethodName)) hown (mvT hZ (hw _ (List.mem_of_getElem? (i := 18) rfl))) (mvT hZ (hw _ (List.mem_of_getElem? (i := 19) rfl))) (mvT hZ (hw _ (List.mem_of_getElem? (i := 2) rfl))) (mvT hZ (hw _ (List.mem_of_getElem? (i := 20) rfl))) (by decide) (backOf (W := 0) (rm5 l Z a0 hw [] ar5 bb kk5 ((1 : Int32) + ((5 : Int32) * bb)) [(.long q0)] (.long (0 : Int64)) (0 : Int32) T5.heap n0 Z6 Vq5 (if_pos rfl)) hZ (hw _ (List.mem_of_getElem? (i := 20) rfl)) (hw _ (List.mem_of_getElem? (i := 2) rfl)) (by decide) (by decide)) (g := (mkF m 33 #[.val (.long q0), .second, .val (.int p1), .val (.int p2), .val (.int p3), .val (.int bb), .val (.int (0 : Int32)), .val (.ref ar5), .unset, .unset, .unset, .unset, .unset] [(.int bb), (.ref ar5)])) rfl (by rw [hml]; rfl) (argsL := [(.ref ar5), (.int bb)]) (rest := []) (lenOf pd_3 rfl) rfl (by show 2 * 0 + _ ≤ _; exact Nat.le_of_eq rfl) (hb hby at_33) (fun _ _ => ⟨rfl, rfl, (by decide : 1 + 0 ≤ _), (by decide : 356 + 0 ≤ _)⟩)
    dsimp only [Pt.U, Pt.locs, Pt.cells, Pt.slots] at X7 l7 y7 z7 st7 hQ7
    subst l7 y7 z7
    obtain ⟨rfl, Nq7, hh7⟩ := hQ7
    have N7 := Fr.app N5 Nq7
    have e7 : T7.heap = T5.heap := hh7
    have pre8 : ∀ t, Steps p.tables e below (T7.setTop (mkF m 61 #[.val (.long q0), .second, .val (.int p1), .val (.int p2), .val (.int p3), .val (.int bb), .val (.int (0 : Int32)), .val (.ref ar5), .val (.int (1 : Int32)), .val (.int ((1 : Int32) + ((5 : Int32) * bb))), .unset, .unset, .unset] [(.int p3), (.int ((1 : Int32) + ((5 : Int32) * bb))), (.int (0 : Int32))])) t → Steps p.tables e below (s₁.setTop (entryFrame m #[(.long q0), (.int p1), (.int p2), (.int p3)] maxLocals)) t := fun t k => by
      refine pre3 t ?_
      show Steps p.tables e below (T1.setTop (mkF m 9 #[.val (.long q0), .second, .val (.int p1), .val (.int p2), .val (.int p3), .val (.int bb), .unset, .unset, .unset, .unset, .unset, .unset, .unset] [(.int (p2 &&& (1 : Int32)))])) _
      refine XS.ifYes X1.here hx rfl (pc0 := 9) (pc' := 16) rfl (hb hby at_9) rfl ((if0 _ _).trans (teq hc9_4).1) (by decide) (by decide) ?_
      show Steps p.tables e below (T1.setTop (mkF m 16 #[.val (.long q0), .second, .val (.int p1), .val (.int p2), .val (.int p3), .val (.int bb), .unset, .unset, .unset, .unset, .unset, .unset, .unset] [])) _
      refine XS.iconst X1.here hx rfl (hb hby at_16) ?_
      show Steps p.tables e below (T1.setTop (mkF m 17 #[.val (.long q0), .second, .val (.int p1), .val (.int p2), .val (.int p3), .val (.int bb), .unset, .unset, .unset, .unset, .unset, .unset, .unset] [(.int (0 : Int32))])) _
      refine XS.istore X1.here hx rfl (hb hby at_17) rfl (l' := #[.val (.long q0), .second, .val (.int p1), .val (.int p2), .val (.int p3), .val (.int bb), .val (.int (0 : Int32)), .unset, .unset, .unset, .unset, .unset, .unset]) rfl ?_
      show Steps p.tables e below (T1.setTop (mkF m 19 #[.val (.long q0), .second, .val (.int p1), .val (.int p2), .val (.int p3), .val (.int bb), .val (.int (0 : Int32)), .unset, .unset, .unset, .unset, .unset, .unset] [])) _
      refine XS.lloadN X1.here hx rfl (hb hby at_19) rfl ?_
      show Steps p.tables e below (T1.setTop (mkF m 20 #[.val (.long q0), .second, .val (.int p1), .val (.int p2), .val (.int p3), .val (.int bb), .val (.int (0 : Int32)), .unset, .unset, .unset, .unset, .unset, .unset] [(.long q0)])) _
      refine XS.iload X1.here hx rfl (hb hby at_20) rfl ?_
      show Steps p.tables e below (T1.setTop (mkF m 22 #[.val (.long q0), .second, .val (.int p1), .val (.int p2), .val (.int p3), .val (.int bb), .val (.int (0 : Int32)), .unset, .unset, .unset, .unset, .unset, .unset] [(.int bb), (.long q0)])) _
      refine XS.iload X1.here hx rfl (hb hby at_22) rfl ?_
      show Steps p.tables e below (T1.setTop (mkF m 24 #[.val (.long q0), .second, .val (.int p1), .val (.int p2), .val (.int p3), .val (.int bb), .val (.int (0 : Int32)), .unset, .unset, .unset, .unset, .unset, .unset] [(.int (0 : Int32)), (.int bb), (.long q0)])) _
      refine st5 _ ?_
      show Steps p.tables e below (T5.setTop (mkF m 27 #[.val (.long q0), .second, .val (.int p1), .val (.int p2), .val (.int p3), .val (.int bb), .val (.int (0 : Int32)), .unset, .unset, .unset, .unset, .unset, .unset] [(.ref ar5)])) _
      refine XS.astore X5.here hx rfl (hb hby at_27) rfl rfl (l' := #[.val (.long q0), .second, .val (.int p1), .val (.int p2), .val (.int p3), .val (.int bb), .val (.int (0 : Int32)), .val (.ref ar5), .unset, .unset, .unset, .unset, .unset]) rfl ?_
      show Steps p.tables e below (T5.setTop (mkF m 29 #[.val (.long q0), .second, .val (.int p1), .val (.int p2), .val (.int p3), .val (.int bb), .val (.int (0 : Int32)), .val (.ref ar5), .unset, .unset, .unset, .unset, .unset] [])) _
      refine XS.aload X5.here hx rfl (hb hby at_29) rfl rfl ?_
      show Steps p.tables e below (T5.setTop (mkF m 31 #[.val (.long q0), .second, .val (.int p1), .val (.int p2), .val (.int p3), .val (.int bb), .val (.int (0 : Int32)), .val (.ref ar5), .unset, .unset, .unset, .unset, .unset] [(.ref ar5)])) _
      refine XS.iload X5.here hx rfl (hb hby at_31) rfl ?_
      show Steps p.tables e below (T5.setTop (mkF m 33 #[.val (.long q0), .second, .val (.int p1), .val (.int p2), .val (.int p3), .val (.int bb), .val (.int (0 : Int32)), .val (.ref ar5), .unset, .unset, .unset, .unset, .unset] [(.int bb), (.ref ar5)])) _
      refine st7 _ ?_
      show Steps p.tables e below (T7.setTop (mkF m 36 #[.val (.long q0), .second, .val (.int p1), .val (.int p2), .val (.int p3), .val (.int bb), .val (.int (0 : Int32)), .val (.ref ar5), .unset, .unset, .unset, .unset, .unset] [(.int (0 : Int32))])) _
      refine XS.iload X7.here hx rfl (hb hby at_36) rfl ?_
      show Steps p.tables e below (T7.setTop (mkF m 38 #[.val (.long q0), .second, .val (.int p1), .val (.int p2), .val (.int p3), .val (.int bb), .val (.int (0 : Int32)), .val (.ref ar5), .unset, .unset, .unset, .unset, .unset] [(.int (0 : Int32)), (.int (0 : Int32))])) _
      refine XS.icmpNo X7.here hx rfl (hb hby at_38) rfl (teq (rfl : (0 : Int32) = (0 : Int32))).2 ?_
      show Steps p.tables e below (T7.setTop (mkF m 41 #[.val (.long q0), .second, .val (.int p1), .val (.int p2), .val (.int p3), .val (.int bb), .val (.int (0 : Int32)), .val (.ref ar5), .unset, .unset, .unset, .unset, .unset] [])) _
      refine XS.iconst X7.here hx rfl (hb hby at_41) ?_
      show Steps p.tables e below (T7.setTop (mkF m 42 #[.val (.long q0), .second, .val (.int p1), .val (.int p2), .val (.int p3), .val (.int bb), .val (.int (0 : Int32)), .val (.ref ar5), .unset, .unset, .unset, .unset, .unset] [(.int (1 : Int32))])) _
      refine XS.goto X7.here hx rfl (pc0 := 42) (pc' := 46) rfl (hb hby at_42) (by decide) (by decide) ?_
      show Steps p.tables e below (T7.setTop (mkF m 46 #[.val (.long q0), .second, .val (.int p1), .val (.int p2), .val (.int p3), .val (.int bb), .val (.int (0 : Int32)), .val (.ref ar5), .unset, .unset, .unset, .unset, .unset] [(.int (1 : Int32))])) _
      refine XS.istore X7.here hx rfl (hb hby at_46) rfl (l' := #[.val (.long q0), .second, .val (.int p1), .val (.int p2), .val (.int p3), .val (.int bb), .val (.int (0 : Int32)), .val (.ref ar5), .val (.int (1 : Int32)), .unset, .unset, .unset, .unset]) rfl ?_
      show Steps p.tables e below (T7.setTop (mkF m 48 #[.val (.long q0), .second, .val (.int p1), .val (.int p2), .val (.int p3), .val (.int bb), .val (.int (0 : Int32)), .val (.ref ar5), .val (.int (1 : Int32)), .unset, .unset, .unset, .unset] [])) _
      refine XS.iconst X7.here hx rfl (hb hby at_48) ?_
      show Steps p.tables e below (T7.setTop (mkF m 49 #[.val (.long q0), .second, .val (.int p1), .val (.int p2), .val (.int p3), .val (.int bb), .val (.int (0 : Int32)), .val (.ref ar5), .val (.int (1 : Int32)), .unset, .unset, .unset, .unset] [(.int (1 : Int32))])) _
      refine XS.iconst X7.here hx rfl (hb hby at_49) ?_
      show Steps p.tables e below (T7.setTop (mkF m 50 #[.val (.long q0), .second, .val (.int p1), .val (.int p2), .val (.int p3), .val (.int bb), .val (.int (0 : Int32)), .val (.ref ar5), .val (.int (1 : Int32)), .unset, .unset, .unset, .unset] [(.int (5 : Int32)), (.int (1 : Int32))])) _
      refine XS.iload X7.here hx rfl (hb hby at_50) rfl ?_
      show Steps p.tables e below (T7.setTop (mkF m 52 #[.val (.long q0), .second, .val (.int p1), .val (.int p2), .val (.int p3), .val (.int bb), .val (.int (0 : Int32)), .val (.ref ar5), .val (.int (1 : Int32)), .unset, .unset, .unset, .unset] [(.int bb), (.int (5 : Int32)), (.int (1 : Int32))])) _
      refine XS.imul X7.here hx rfl (hb hby at_52) rfl ?_
      show Steps p.tables e below (T7.setTop (mkF m 53 #[.val (.long q0), .second, .val (.int p1), .val (.int p2), .val (.int p3), .val (.int bb), .val (.int (0 : Int32)), .val (.ref ar5), .val (.int (1 : Int32)), .unset, .unset, .unset, .unset] [(.int ((5 : Int32) * bb)), (.int (1 : Int32))])) _
      refine XS.iadd X7.here hx rfl (hb hby at_53) rfl ?_
      show Steps p.tables e below (T7.setTop (mkF m 54 #[.val (.long q0), .second, .val (.int p1), .val (.int p2), .val (.int p3), .val (.int bb), .val (.int (0 : Int32)), .val (.ref ar5), .val (.int (1 : Int32)), .unset, .unset, .unset, .unset] [(.int ((1 : Int32) + ((5 : Int32) * bb)))])) _
      refine XS.istore X7.here hx rfl (hb hby at_54) rfl (l' := #[.val (.long q0), .second, .val (.int p1), .val (.int p2), .val (.int p3), .val (.int bb), .val (.int (0 : Int32)), .val (.ref ar5), .val (.int (1 : Int32)), .val (.int ((1 : Int32) + ((5 : Int32) * bb))), .unset, .unset, .unset]) rfl ?_
      show Steps p.tables e below (T7.setTop (mkF m 56 #[.val (.long q0), .second, .val (.int p1), .val (.int p2), .val (.int p3), .val (.int bb), .val (.int (0 : Int32)), .val (.ref ar5), .val (.int (1 : Int32)), .val (.int ((1 : Int32) + ((5 : Int32) * bb))), .unset, .unset, .unset] [])) _
      refine XS.iconst X7.here hx rfl (hb hby at_56) ?_
      show Steps p.tables e below (T7.setTop (mkF m 57 #[.val (.long q0), .second, .val (.int p1), .val (.int p2), .val (.int p3), .val (.int bb), .val (.int (0 : Int32)), .val (.ref ar5), .val (.int (1 : Int32)), .val (.int ((1 : Int32) + ((5 : Int32) * bb))), .unset, .unset, .unset] [(.int (0 : Int32))])) _
      refine XS.iload X7.here hx rfl (hb hby at_57) rfl ?_
      show Steps p.tables e below (T7.setTop (mkF m 59 #[.val (.long q0), .second, .val (.int p1), .val (.int p2), .val (.int p3), .val (.int bb), .val (.int (0 : Int32)), .val (.ref ar5), .val (.int (1 : Int32)), .val (.int ((1 : Int32) + ((5 : Int32) * bb))), .unset, .unset, .unset] [(.int ((1 : Int32) + ((5 : Int32) * bb))), (.int (0 : Int32))])) _
      refine XS.iload X7.here hx rfl (hb hby at_59) rfl ?_
      exact k
    obtain ⟨T9, dd, Lx9, X9, e9, N9, hd0, hd1, pre9⟩ : ∃ (T9 : State) (dd : Int32) (Lx9 : List Loc), Stand p l e room_1 s0 m #[(.long q0), (.int p1), (.int p2), (.int p3)] below meth c T9 Lx9 1 356 ∧ T9.heap = T5.heap ∧ Fr n0 Lx9 ∧ (0 ≤ dd.toInt) ∧ (dd.toInt ≤ 7) ∧ (∀ t, Steps p.tables e below (T9.setTop (mkF m 64 #[.val (.long q0), .second, .val (.int p1), .val (.int p2), .val (.int p3), .val (.int bb), .val (.int (0 : Int32)), .val (.ref ar5), .val (.int (1 : Int32)), .val (.int ((1 : Int32) + ((5 : Int32) * bb))), .unset, .unset, .unset] [(.int dd), (.int ((1 : Int32) + ((5 : Int32) * bb))), (.int (0 : Int32))])) t → Steps p.tables e below (s₁.setTop (entryFrame m #[(.long q0), (.int p1), (.int p2), (.int p3)] maxLocals)) t) := by
      have pre10 : ∀ t, Steps p.tables e below (T7.setTop (mkF m 64 #[.val (.long q0), .second, .val (.int p1), .val (.int p2), .val (.int p3), .val (.int bb), .val (.int (0 : Int32)), .val (.ref ar5), .val (.int (1 : Int32)), .val (.int ((1 : Int32) + ((5 : Int32) * bb))), .unset, .unset, .unset] [(.int (p3 &&& (7 : Int32))), (.int ((1 : Int32) + ((5 : Int32) * bb))), (.int (0 : Int32))])) t → Steps p.tables e below (s₁.setTop (entryFrame m #[(.long q0), (.int p1), (.int p2), (.int p3)] maxLocals)) t := fun t k => by
        refine pre8 t ?_
        show Steps p.tables e below (T7.setTop (mkF m 61 #[.val (.long q0), .second, .val (.int p1), .val (.int p2), .val (.int p3), .val (.int bb), .val (.int (0 : Int32)), .val (.ref ar5), .val (.int (1 : Int32)), .val (.int ((1 : Int32) + ((5 : Int32) * bb))), .unset, .unset, .unset] [(.int p3), (.int ((1 : Int32) + ((5 : Int32) * bb))), (.int (0 : Int32))])) _
        refine XS.bipush X7.here hx rfl (hb hby at_61) ?_
        show Steps p.tables e below (T7.setTop (mkF m 63 #[.val (.long q0), .second, .val (.int p1), .val (.int p2), .val (.int p3), .val (.int bb), .val (.int (0 : Int32)), .val (.ref ar5), .val (.int (1 : Int32)), .val (.int ((1 : Int32) + ((5 : Int32) * bb))), .unset, .unset, .unset] [(.int (7 : Int32)), (.int p3), (.int ((1 : Int32) + ((5 : Int32) * bb))), (.int (0 : Int32))])) _
        refine XS.iand X7.here hx rfl (hb hby at_63) rfl ?_
        exact k
      exact ⟨T7, (p3 &&& (7 : Int32)), _, X7, e7, N7, (own_m7 p3).1, (own_m7 p3).2, pre10⟩
    obtain ⟨_, _, ⟨T11, L11, k11, n11⟩, -, X11, ⟨Lc11, hQ11, l11, y11, z11⟩, st11⟩ := Jvm.LawKit.callS X9 hx (y := (⟨"java/lang/Math", "max", "(II)I"⟩ : MethodName)) hown (mvT hZ (hw _ (List.mem_of_getElem? (i := 21) rfl))) (mvT hZ (hw _ (List.mem_of_getElem? (i := 22) rfl))) (mvT hZ (hw _ (List.mem_of_getElem? (i := 23) rfl))) (mvT hZ (hw _ (List.mem_of_getElem? (i := 24) rfl))) (by decide) (backOf (W := 0) (rm6 l Z a0 hw [] (0 : Int32) (((1 : Int32) + ((5 : Int32) * bb)) + (dd - (4 : Int32))) T5.heap n0 Z6 ) hZ (hw _ (List.mem_of_getElem? (i := 24) rfl)) (hw _ (List.mem_of_getElem? (i := 23) rfl)) (by decide) (by decide)) (g := (mkF m 67 #[.val (.long q0), .second, .val (.int p1), .val (.int p2), .val (.int p3), .val (.int bb), .val (.int (0 : Int32)), .val (.ref ar5), .val (.int (1 : Int32)), .val (.int ((1 : Int32) + ((5 : Int32) * bb))), .unset, .unset, .unset] [(.int (((1 : Int32) + ((5 : Int32) * bb)) + (dd - (4 : Int32)))), (.int (0 : Int32))])) rfl (by rw [hml]; rfl) (argsL := [(.int (0 : Int32)), (.int (((1 : Int32) + ((5 : Int32) * bb)) + (dd - (4 : Int32))))]) (rest := []) (lenOf pd_4 rfl) rfl (by show 2 * 0 + _ ≤ _; exact Nat.le_of_eq rfl) (hb hby at_67) (fun _ _ => ⟨rfl, e9, (by decide : 1 + 0 ≤ _), (by decide : 356 + 0 ≤ _)⟩)
    dsimp only [Pt.U, Pt.locs, Pt.cells, Pt.slots] at X11 l11 y11 z11 st11 hQ11
    subst l11 y11 z11
    obtain ⟨rfl, Nq11, hh11⟩ := hQ11
    have N11 := Fr.app N9 Nq11
    have e11 : T11.heap = T5.heap := hh11
    obtain ⟨T12, h12, k12, X12, e12, E12, A12, st12⟩ := newP X11 hx hZ (hw _ (List.mem_of_getElem? (i := 17) rfl)) e11 (g := (mkF m 74 #[.val (.long q0), .second, .val (.int p1), .val (.int p2), .val (.int p3), .val (.int bb), .val (.int (0 : Int32)), .val (.ref ar5), .val (.int (1 : Int32)), .val (.int ((1 : Int32) + ((5 : Int32) * bb))), .val (.int (if (0 : Int32) < (((1 : Int32) + ((5 : Int32) * bb)) + (dd - (4 : Int32))) then (((1 : Int32) + ((5 : Int32) * bb)) + (dd - (4 : Int32))) else (0 : Int32))), .unset, .unset] [(.int (if (0 : Int32) < (((1 : Int32) + ((5 : Int32) * bb)) + (dd - (4 : Int32))) then (((1 : Int32) + ((5 : Int32) * bb)) + (dd - (4 : Int32))) else (0 : Int32)))])) rfl (hb hby at_74) rfl (own_l0 hb0 hb1 hd0 hd1) (cap := 79) (own_lc hb0 hb1 hd0 hd1) (by decide) (by decide) (by decide)
    obtain ⟨b12, g12⟩ : ∃ z, z = T5.heap.size := ⟨_, rfl⟩
    rw [← g12] at A12 st12
    have g_b12 : n0 ≤ b12 := Nat.le_trans Z6 (Nat.le_of_eq g12.symm)
    have Z13 : n0 ≤ h12.size := Nat.le_trans Z6 E12.1
    have V12 : Arv Z h12 b12 k12 .long (if (0 : Int32) < (((1 : Int32) + ((5 : Int32) * bb)) + (dd - (4 : Int32))) then (((1 : Int32) + ((5 : Int32) * bb)) + (dd - (4 : Int32))) else (0 : Int32)) [] (.long (0 : Int64)) := (Arv.new A12 (own_l0 hb0 hb1 hd0 hd1))
    obtain ⟨_, _, ⟨T14, L14, k14, n14⟩, -, X14, ⟨Lc14, hQ14, l14, y14, z14⟩, st14⟩ := Jvm.LawKit.callS X12 hx (y := (⟨"com/example/libthrottle/libthrottle/stat/Span", "inRows", "([JI)Z"⟩ : MethodName)) hown (mvT hZ (hw _ (List.mem_of_getElem? (i := 18) rfl))) (mvT hZ (hw _ (List.mem_of_getElem? (i := 19) rfl))) (mvT hZ (hw _ (List.mem_of_getElem? (i := 2) rfl))) (mvT hZ (hw _ (List.mem_of_getElem? (i := 20) rfl))) (by decide) (backOf (W := 0) (rm5 l Z a0 hw [] b12 bb k12 (if (0 : Int32) < (((1 : Int32) + ((5 : Int32) * bb)) + (dd - (4 : Int32))) then (((1 : Int32) + ((5 : Int32) * bb)) + (dd - (4 : Int32))) else (0 : Int32)) [] (.long (0 : Int64)) (if (if (0 : Int32) < (((1 : Int32) + ((5 : Int32) * bb)) + (dd - (4 : Int32))) then (((1 : Int32) + ((5 : Int32) * bb)) + (dd - (4 : Int32))) else (0 : Int32)) = ((1 : Int32) + ((5 : Int32) * bb)) then (0 : Int32) else (1 : Int32)) h12 n0 Z13 V12 rfl) hZ (hw _ (List.mem_of_getElem? (i := 20) rfl)) (hw _ (List.mem_of_getElem? (i := 2) rfl)) (by decide) (by decide)) (g := (mkF m 82 #[.val (.long q0), .second, .val (.int p1), .val (.int p2), .val (.int p3), .val (.int bb), .val (.int (0 : Int32)), .val (.ref ar5), .val (.int (1 : Int32)), .val (.int ((1 : Int32) + ((5 : Int32) * bb))), .val (.int (if (0 : Int32) < (((1 : Int32) + ((5 : Int32) * bb)) + (dd - (4 : Int32))) then (((1 : Int32) + ((5 : Int32) * bb)) + (dd - (4 : Int32))) else (0 : Int32))), .val (.ref b12), .unset] [(.int bb), (.ref b12)])) rfl (by rw [hml]; rfl) (argsL := [(.ref b12), (.int bb)]) (rest := []) (lenOf pd_3 rfl) rfl (by show 2 * 0 + _ ≤ _; exact Nat.le_of_eq rfl) (hb hby at_82) (fun _ _ => ⟨rfl, e12, (by decide : 2 + 0 ≤ _), (by decide : 435 + 0 ≤ _)⟩)
    dsimp only [Pt.U, Pt.locs, Pt.cells, Pt.slots] at X14 l14 y14 z14 st14 hQ14
    subst l14 y14 z14
    obtain ⟨rfl, Nq14, hh14⟩ := hQ14
    have N14 := Fr.app N11 Nq14
    have e14 : T14.heap = h12 := hh14
    have pre15 : ∀ t, Steps p.tables e below (T14.setTop (mkF m 122 #[.val (.long q0), .second, .val (.int p1), .val (.int p2), .val (.int p3), .val (.int bb), .val (.int (0 : Int32)), .val (.ref ar5), .val (.int (1 : Int32)), .val (.int ((1 : Int32) + ((5 : Int32) * bb))), .val (.int (if (0 : Int32) < (((1 : Int32) + ((5 : Int32) * bb)) + (dd - (4 : Int32))) then (((1 : Int32) + ((5 : Int32) * bb)) + (dd - (4 : Int32))) else (0 : Int32))), .val (.ref b12), .val (.int (1 : Int32))] [(.int (1 : Int32))])) t → Steps p.tables e below (s₁.setTop (entryFrame m #[(.long q0), (.int p1), (.int p2), (.int p3)] maxLocals)) t := fun t k => by
      refine pre9 t ?_
      show Steps p.tables e below (T9.setTop (mkF m 64 #[.val (.long q0), .second, .val (.int p1), .val (.int p2), .val (.int p3), .val (.int bb), .val (.int (0 : Int32)), .val (.ref ar5), .val (.int (1 : Int32)), .val (.int ((1 : Int32) + ((5 : Int32) * bb))), .unset, .unset, .unset] [(.int dd), (.int ((1 : Int32) + ((5 : Int32) * bb))), (.int (0 : Int32))])) _
      refine XS.iconst X9.here hx rfl (hb hby at_64) ?_
      show Steps p.tables e below (T9.setTop (mkF m 65 #[.val (.long q0), .second, .val (.int p1), .val (.int p2), .val (.int p3), .val (.int bb), .val (.int (0 : Int32)), .val (.ref ar5), .val (.int (1 : Int32)), .val (.int ((1 : Int32) + ((5 : Int32) * bb))), .unset, .unset, .unset] [(.int (4 : Int32)), (.int dd), (.int ((1 : Int32) + ((5 : Int32) * bb))), (.int (0 : Int32))])) _
      refine XS.isub X9.here hx rfl (hb hby at_65) rfl ?_
      show Steps p.tables e below (T9.setTop (mkF m 66 #[.val (.long q0), .second, .val (.int p1), .val (.int p2), .val (.int p3), .val (.int bb), .val (.int (0 : Int32)), .val (.ref ar5), .val (.int (1 : Int32)), .val (.int ((1 : Int32) + ((5 : Int32) * bb))), .unset, .unset, .unset] [(.int (dd - (4 : Int32))), (.int ((1 : Int32) + ((5 : Int32) * bb))), (.int (0 : Int32))])) _
      refine XS.iadd X9.here hx rfl (hb hby at_66) rfl ?_
      show Steps p.tables e below (T9.setTop (mkF m 67 #[.val (.long q0), .second, .val (.int p1), .val (.int p2), .val (.int p3), .val (.int bb), .val (.int (0 : Int32)), .val (.ref ar5), .val (.int (1 : Int32)), .val (.int ((1 : Int32) + ((5 : Int32) * bb))), .unset, .unset, .unset] [(.int (((1 : Int32) + ((5 : Int32) * bb)) + (dd - (4 : Int32)))), (.int (0 : Int32))])) _
      refine st11 _ ?_
      show Steps p.tables e below (T11.setTop (mkF m 70 #[.val (.long q0), .second, .val (.int p1), .val (.int p2), .val (.int p3), .val (.int bb), .val (.int (0 : Int32)), .val (.ref ar5), .val (.int (1 : Int32)), .val (.int ((1 : Int32) + ((5 : Int32) * bb))), .unset, .unset, .unset] [(.int (if (0 : Int32) < (((1 : Int32) + ((5 : Int32) * bb)) + (dd - (4 : Int32))) then (((1 : Int32) + ((5 : Int32) * bb)) + (dd - (4 : Int32))) else (0 : Int32)))])) _
      refine XS.istore X11.here hx rfl (hb hby at_70) rfl (l' := #[.val (.long q0), .second, .val (.int p1), .val (.int p2), .val (.int p3), .val (.int bb), .val (.int (0 : Int32)), .val (.ref ar5), .val (.int (1 : Int32)), .val (.int ((1 : Int32) + ((5 : Int32) * bb))), .val (.int (if (0 : Int32) < (((1 : Int32) + ((5 : Int32) * bb)) + (dd - (4 : Int32))) then (((1 : Int32) + ((5 : Int32) * bb)) + (dd - (4 : Int32))) else (0 : Int32))), .unset, .unset]) rfl ?_
      show Steps p.tables e below (T11.setTop (mkF m 72 #[.val (.long q0), .second, .val (.int p1), .val (.int p2), .val (.int p3), .val (.int bb), .val (.int (0 : Int32)), .val (.ref ar5), .val (.int (1 : Int32)), .val (.int ((1 : Int32) + ((5 : Int32) * bb))), .val (.int (if (0 : Int32) < (((1 : Int32) + ((5 : Int32) * bb)) + (dd - (4 : Int32))) then (((1 : Int32) + ((5 : Int32) * bb)) + (dd - (4 : Int32))) else (0 : Int32))), .unset, .unset] [])) _
      refine XS.iload X11.here hx rfl (hb hby at_72) rfl ?_
      show Steps p.tables e below (T11.setTop (mkF m 74 #[.val (.long q0), .second, .val (.int p1), .val (.int p2), .val (.int p3), .val (.int bb), .val (.int (0 : Int32)), .val (.ref ar5), .val (.int (1 : Int32)), .val (.int ((1 : Int32) + ((5 : Int32) * bb))), .val (.int (if (0 : Int32) < (((1 : Int32) + ((5 : Int32) * bb)) + (dd - (4 : Int32))) then (((1 : Int32) + ((5 : Int32) * bb)) + (dd - (4 : Int32))) else (0 : Int32))), .unset, .unset] [(.int (if (0 : Int32) < (((1 : Int32) + ((5 : Int32) * bb)) + (dd - (4 : Int32))) then (((1 : Int32) + ((5 : Int32) * bb)) + (dd - (4 : Int32))) else (0 : Int32)))])) _
      refine st12 _ ?_
      show Steps p.tables e below (T12.setTop (mkF m 76 #[.val (.long q0), .second, .val (.int p1), .val (.int p2), .val (.int p3), .val (.int bb), .val (.int (0 : Int32)), .val (.ref ar5), .val (.int (1 : Int32)), .val (.int ((1 : Int32) + ((5 : Int32) * bb))), .val (.int (if (0 : Int32) < (((1 : Int32) + ((5 : Int32) * bb)) + (dd - (4 : Int32))) then (((1 : Int32) + ((5 : Int32) * bb)) + (dd - (4 : Int32))) else (0 : Int32))), .unset, .unset] [(.ref b12)])) _
      refine XS.astore X12.here hx rfl (hb hby at_76) rfl rfl (l' := #[.val (.long q0), .second, .val (.int p1), .val (.int p2), .val (.int p3), .val (.int bb), .val (.int (0 : Int32)), .val (.ref ar5), .val (.int (1 : Int32)), .val (.int ((1 : Int32) + ((5 : Int32) * bb))), .val (.int (if (0 : Int32) < (((1 : Int32) + ((5 : Int32) * bb)) + (dd - (4 : Int32))) then (((1 : Int32) + ((5 : Int32) * bb)) + (dd - (4 : Int32))) else (0 : Int32))), .val (.ref b12), .unset]) rfl ?_
      show Steps p.tables e below (T12.setTop (mkF m 78 #[.val (.long q0), .second, .val (.int p1), .val (.int p2), .val (.int p3), .val (.int bb), .val (.int (0 : Int32)), .val (.ref ar5), .val (.int (1 : Int32)), .val (.int ((1 : Int32) + ((5 : Int32) * bb))), .val (.int (if (0 : Int32) < (((1 : Int32) + ((5 : Int32) * bb)) + (dd - (4 : Int32))) then (((1 : Int32) + ((5 : Int32) * bb)) + (dd - (4 : Int32))) else (0 : Int32))), .val (.ref b12), .unset] [])) _
      refine XS.aload X12.here hx rfl (hb hby at_78) rfl rfl ?_
      show Steps p.tables e below (T12.setTop (mkF m 80 #[.val (.long q0), .second, .val (.int p1), .val (.int p2), .val (.int p3), .val (.int bb), .val (.int (0 : Int32)), .val (.ref ar5), .val (.int (1 : Int32)), .val (.int ((1 : Int32) + ((5 : Int32) * bb))), .val (.int (if (0 : Int32) < (((1 : Int32) + ((5 : Int32) * bb)) + (dd - (4 : Int32))) then (((1 : Int32) + ((5 : Int32) * bb)) + (dd - (4 : Int32))) else (0 : Int32))), .val (.ref b12), .unset] [(.ref b12)])) _
      refine XS.iload X12.here hx rfl (hb hby at_80) rfl ?_
      show Steps p.tables e below (T12.setTop (mkF m 82 #[.val (.long q0), .second, .val (.int p1), .val (.int p2), .val (.int p3), .val (.int bb), .val (.int (0 : Int32)), .val (.ref ar5), .val (.int (1 : Int32)), .val (.int ((1 : Int32) + ((5 : Int32) * bb))), .val (.int (if (0 : Int32) < (((1 : Int32) + ((5 : Int32) * bb)) + (dd - (4 : Int32))) then (((1 : Int32) + ((5 : Int32) * bb)) + (dd - (4 : Int32))) else (0 : Int32))), .val (.ref b12), .unset] [(.int bb), (.ref b12)])) _
      refine st14 _ ?_
      show Steps p.tables e below (T14.setTop (mkF m 85 #[.val (.long q0), .second, .val (.int p1), .val (.int p2), .val (.int p3), .val (.int bb), .val (.int (0 : Int32)), .val (.ref ar5), .val (.int (1 : Int32)), .val (.int ((1 : Int32) + ((5 : Int32) * bb))), .val (.int (if (0 : Int32) < (((1 : Int32) + ((5 : Int32) * bb)) + (dd - (4 : Int32))) then (((1 : Int32) + ((5 : Int32) * bb)) + (dd - (4 : Int32))) else (0 : Int32))), .val (.ref b12), .unset] [(.int (if (if (0 : Int32) < (((1 : Int32) + ((5 : Int32) * bb)) + (dd - (4 : Int32))) then (((1 : Int32) + ((5 : Int32) * bb)) + (dd - (4 : Int32))) else (0 : Int32)) = ((1 : Int32) + ((5 : Int32) * bb)) then (0 : Int32) else (1 : Int32)))])) _
      refine XS.iload X14.here hx rfl (hb hby at_85) rfl ?_
      show Steps p.tables e below (T14.setTop (mkF m 87 #[.val (.long q0), .second, .val (.int p1), .val (.int p2), .val (.int p3), .val (.int bb), .val (.int (0 : Int32)), .val (.ref ar5), .val (.int (1 : Int32)), .val (.int ((1 : Int32) + ((5 : Int32) * bb))), .val (.int (if (0 : Int32) < (((1 : Int32) + ((5 : Int32) * bb)) + (dd - (4 : Int32))) then (((1 : Int32) + ((5 : Int32) * bb)) + (dd - (4 : Int32))) else (0 : Int32))), .val (.ref b12), .unset] [(.int (if (0 : Int32) < (((1 : Int32) + ((5 : Int32) * bb)) + (dd - (4 : Int32))) then (((1 : Int32) + ((5 : Int32) * bb)) + (dd - (4 : Int32))) else (0 : Int32))), (.int (if (if (0 : Int32) < (((1 : Int32) + ((5 : Int32) * bb)) + (dd - (4 : Int32))) then (((1 : Int32) + ((5 : Int32) * bb)) + (dd - (4 : Int32))) else (0 : Int32)) = ((1 : Int32) + ((5 : Int32) * bb)) then (0 : Int32) else (1 : Int32)))])) _
      refine XS.iload X14.here hx rfl (hb hby at_87) rfl ?_
      show Steps p.tables e below (T14.setTop (mkF m 89 #[.val (.long q0), .second, .val (.int p1), .val (.int p2), .val (.int p3), .val (.int bb), .val (.int (0 : Int32)), .val (.ref ar5), .val (.int (1 : Int32)), .val (.int ((1 : Int32) + ((5 : Int32) * bb))), .val (.int (if (0 : Int32) < (((1 : Int32) + ((5 : Int32) * bb)) + (dd - (4 : Int32))) then (((1 : Int32) + ((5 : Int32) * bb)) + (dd - (4 : Int32))) else (0 : Int32))), .val (.ref b12), .unset] [(.int ((1 : Int32) + ((5 : Int32) * bb))), (.int (if (0 : Int32) < (((1 : Int32) + ((5 : Int32) * bb)) + (dd - (4 : Int32))) then (((1 : Int32) + ((5 : Int32) * bb)) + (dd - (4 : Int32))) else (0 : Int32))), (.int (if (if (0 : Int32) < (((1 : Int32) + ((5 : Int32) * bb)) + (dd - (4 : Int32))) then (((1 : Int32) + ((5 : Int32) * bb)) + (dd - (4 : Int32))) else (0 : Int32)) = ((1 : Int32) + ((5 : Int32) * bb)) then (0 : Int32) else (1 : Int32)))])) _
      refine own_boolC (g := (mkF m 89 #[.val (.long q0), .second, .val (.int p1), .val (.int p2), .val (.int p3), .val (.int bb), .val (.int (0 : Int32)), .val (.ref ar5), .val (.int (1 : Int32)), .val (.int ((1 : Int32) + ((5 : Int32) * bb))), .val (.int (if (0 : Int32) < (((1 : Int32) + ((5 : Int32) * bb)) + (dd - (4 : Int32))) then (((1 : Int32) + ((5 : Int32) * bb)) + (dd - (4 : Int32))) else (0 : Int32))), .val (.ref b12), .unset] [(.int ((1 : Int32) + ((5 : Int32) * bb))), (.int (if (0 : Int32) < (((1 : Int32) + ((5 : Int32) * bb)) + (dd - (4 : Int32))) then (((1 : Int32) + ((5 : Int32) * bb)) + (dd - (4 : Int32))) else (0 : Int32))), (.int (if (if (0 : Int32) < (((1 : Int32) + ((5 : Int32) * bb)) + (dd - (4 : Int32))) then (((1 : Int32) + ((5 : Int32) * bb)) + (dd - (4 : Int32))) else (0 : Int32)) = ((1 : Int32) + ((5 : Int32) * bb)) then (0 : Int32) else (1 : Int32)))])) X14.here hx rfl (hb hby at_89) (hb hby at_92) (hb hby at_93) (hb hby at_96) rfl (by exact own_b_eq _ _) ?_
      show Steps p.tables e below (T14.setTop (mkF m 97 #[.val (.long q0), .second, .val (.int p1), .val (.int p2), .val (.int p3), .val (.int bb), .val (.int (0 : Int32)), .val (.ref ar5), .val (.int (1 : Int32)), .val (.int ((1 : Int32) + ((5 : Int32) * bb))), .val (.int (if (0 : Int32) < (((1 : Int32) + ((5 : Int32) * bb)) + (dd - (4 : Int32))) then (((1 : Int32) + ((5 : Int32) * bb)) + (dd - (4 : Int32))) else (0 : Int32))), .val (.ref b12), .unset] [(.int (if (if (0 : Int32) < (((1 : Int32) + ((5 : Int32) * bb)) + (dd - (4 : Int32))) then (((1 : Int32) + ((5 : Int32) * bb)) + (dd - (4 : Int32))) else (0 : Int32)) = ((1 : Int32) + ((5 : Int32) * bb)) then (0 : Int32) else (1 : Int32))), (.int (if (if (0 : Int32) < (((1 : Int32) + ((5 : Int32) * bb)) + (dd - (4 : Int32))) then (((1 : Int32) + ((5 : Int32) * bb)) + (dd - (4 : Int32))) else (0 : Int32)) = ((1 : Int32) + ((5 : Int32) * bb)) then (0 : Int32) else (1 : Int32)))])) _
      refine XS.icmpNo X14.here hx rfl (hb hby at_97) rfl (teq (rfl : (if (if (0 : Int32) < (((1 : Int32) + ((5 : Int32) * bb)) + (dd - (4 : Int32))) then (((1 : Int32) + ((5 : Int32) * bb)) + (dd - (4 : Int32))) else (0 : Int32)) = ((1 : Int32) + ((5 : Int32) * bb)) then (0 : Int32) else (1 : Int32)) = (if (if (0 : Int32) < (((1 : Int32) + ((5 : Int32) * bb)) + (dd - (4 : Int32))) then (((1 : Int32) + ((5 : Int32) * bb)) + (dd - (4 : Int32))) else (0 : Int32)) = ((1 : Int32) + ((5 : Int32) * bb)) then (0 : Int32) else (1 : Int32)))).2 ?_
      show Steps p.tables e below (T14.setTop (mkF m 100 #[.val (.long q0), .second, .val (.int p1), .val (.int p2), .val (.int p3), .val (.int bb), .val (.int (0 : Int32)), .val (.ref ar5), .val (.int (1 : Int32)), .val (.int ((1 : Int32) + ((5 : Int32) * bb))), .val (.int (if (0 : Int32) < (((1 : Int32) + ((5 : Int32) * bb)) + (dd - (4 : Int32))) then (((1 : Int32) + ((5 : Int32) * bb)) + (dd - (4 : Int32))) else (0 : Int32))), .val (.ref b12), .unset] [])) _
      refine XS.iconst X14.here hx rfl (hb hby at_100) ?_
      show Steps p.tables e below (T14.setTop (mkF m 101 #[.val (.long q0), .second, .val (.int p1), .val (.int p2), .val (.int p3), .val (.int bb), .val (.int (0 : Int32)), .val (.ref ar5), .val (.int (1 : Int32)), .val (.int ((1 : Int32) + ((5 : Int32) * bb))), .val (.int (if (0 : Int32) < (((1 : Int32) + ((5 : Int32) * bb)) + (dd - (4 : Int32))) then (((1 : Int32) + ((5 : Int32) * bb)) + (dd - (4 : Int32))) else (0 : Int32))), .val (.ref b12), .unset] [(.int (1 : Int32))])) _
      refine XS.goto X14.here hx rfl (pc0 := 101) (pc' := 105) rfl (hb hby at_101) (by decide) (by decide) ?_
      show Steps p.tables e below (T14.setTop (mkF m 105 #[.val (.long q0), .second, .val (.int p1), .val (.int p2), .val (.int p3), .val (.int bb), .val (.int (0 : Int32)), .val (.ref ar5), .val (.int (1 : Int32)), .val (.int ((1 : Int32) + ((5 : Int32) * bb))), .val (.int (if (0 : Int32) < (((1 : Int32) + ((5 : Int32) * bb)) + (dd - (4 : Int32))) then (((1 : Int32) + ((5 : Int32) * bb)) + (dd - (4 : Int32))) else (0 : Int32))), .val (.ref b12), .unset] [(.int (1 : Int32))])) _
      refine XS.istore X14.here hx rfl (hb hby at_105) rfl (l' := #[.val (.long q0), .second, .val (.int p1), .val (.int p2), .val (.int p3), .val (.int bb), .val (.int (0 : Int32)), .val (.ref ar5), .val (.int (1 : Int32)), .val (.int ((1 : Int32) + ((5 : Int32) * bb))), .val (.int (if (0 : Int32) < (((1 : Int32) + ((5 : Int32) * bb)) + (dd - (4 : Int32))) then (((1 : Int32) + ((5 : Int32) * bb)) + (dd - (4 : Int32))) else (0 : Int32))), .val (.ref b12), .val (.int (1 : Int32))]) rfl ?_
      show Steps p.tables e below (T14.setTop (mkF m 107 #[.val (.long q0), .second, .val (.int p1), .val (.int p2), .val (.int p3), .val (.int bb), .val (.int (0 : Int32)), .val (.ref ar5), .val (.int (1 : Int32)), .val (.int ((1 : Int32) + ((5 : Int32) * bb))), .val (.int (if (0 : Int32) < (((1 : Int32) + ((5 : Int32) * bb)) + (dd - (4 : Int32))) then (((1 : Int32) + ((5 : Int32) * bb)) + (dd - (4 : Int32))) else (0 : Int32))), .val (.ref b12), .val (.int (1 : Int32))] [])) _
      refine XS.iload X14.here hx rfl (hb hby at_107) rfl ?_
      show Steps p.tables e below (T14.setTop (mkF m 109 #[.val (.long q0), .second, .val (.int p1), .val (.int p2), .val (.int p3), .val (.int bb), .val (.int (0 : Int32)), .val (.ref ar5), .val (.int (1 : Int32)), .val (.int ((1 : Int32) + ((5 : Int32) * bb))), .val (.int (if (0 : Int32) < (((1 : Int32) + ((5 : Int32) * bb)) + (dd - (4 : Int32))) then (((1 : Int32) + ((5 : Int32) * bb)) + (dd - (4 : Int32))) else (0 : Int32))), .val (.ref b12), .val (.int (1 : Int32))] [(.int (1 : Int32))])) _
      refine XS.ifNo X14.here hx rfl (hb hby at_109) rfl ((if0 _ _).trans (feq (by decide : ¬ ((1 : Int32) = (0 : Int32)))).1) ?_
      show Steps p.tables e below (T14.setTop (mkF m 112 #[.val (.long q0), .second, .val (.int p1), .val (.int p2), .val (.int p3), .val (.int bb), .val (.int (0 : Int32)), .val (.ref ar5), .val (.int (1 : Int32)), .val (.int ((1 : Int32) + ((5 : Int32) * bb))), .val (.int (if (0 : Int32) < (((1 : Int32) + ((5 : Int32) * bb)) + (dd - (4 : Int32))) then (((1 : Int32) + ((5 : Int32) * bb)) + (dd - (4 : Int32))) else (0 : Int32))), .val (.ref b12), .val (.int (1 : Int32))] [])) _
      refine XS.iload X14.here hx rfl (hb hby at_112) rfl ?_
      show Steps p.tables e below (T14.setTop (mkF m 114 #[.val (.long q0), .second, .val (.int p1), .val (.int p2), .val (.int p3), .val (.int bb), .val (.int (0 : Int32)), .val (.ref ar5), .val (.int (1 : Int32)), .val (.int ((1 : Int32) + ((5 : Int32) * bb))), .val (.int (if (0 : Int32) < (((1 : Int32) + ((5 : Int32) * bb)) + (dd - (4 : Int32))) then (((1 : Int32) + ((5 : Int32) * bb)) + (dd - (4 : Int32))) else (0 : Int32))), .val (.ref b12), .val (.int (1 : Int32))] [(.int (1 : Int32))])) _
      refine XS.ifNo X14.here hx rfl (hb hby at_114) rfl ((if0 _ _).trans (feq (by decide : ¬ ((1 : Int32) = (0 : Int32)))).1) ?_
      show Steps p.tables e below (T14.setTop (mkF m 117 #[.val (.long q0), .second, .val (.int p1), .val (.int p2), .val (.int p3), .val (.int bb), .val (.int (0 : Int32)), .val (.ref ar5), .val (.int (1 : Int32)), .val (.int ((1 : Int32) + ((5 : Int32) * bb))), .val (.int (if (0 : Int32) < (((1 : Int32) + ((5 : Int32) * bb)) + (dd - (4 : Int32))) then (((1 : Int32) + ((5 : Int32) * bb)) + (dd - (4 : Int32))) else (0 : Int32))), .val (.ref b12), .val (.int (1 : Int32))] [])) _
      refine XS.iconst X14.here hx rfl (hb hby at_117) ?_
      show Steps p.tables e below (T14.setTop (mkF m 118 #[.val (.long q0), .second, .val (.int p1), .val (.int p2), .val (.int p3), .val (.int bb), .val (.int (0 : Int32)), .val (.ref ar5), .val (.int (1 : Int32)), .val (.int ((1 : Int32) + ((5 : Int32) * bb))), .val (.int (if (0 : Int32) < (((1 : Int32) + ((5 : Int32) * bb)) + (dd - (4 : Int32))) then (((1 : Int32) + ((5 : Int32) * bb)) + (dd - (4 : Int32))) else (0 : Int32))), .val (.ref b12), .val (.int (1 : Int32))] [(.int (1 : Int32))])) _
      refine XS.goto X14.here hx rfl (pc0 := 118) (pc' := 122) rfl (hb hby at_118) (by decide) (by decide) ?_
      exact k
    obtain ⟨fs, hrq, hrun, hended, hW, hsame⟩ := X14.leave (v := some (.int (1 : Int32))) (fun h => by rw [Bd.returns] at h; cases h)
    refine ⟨_, _, pre15 _ ?_, hrun, hended, _, _, rfl, ?_, ⟨_, rfl⟩, hW, hsame.mono (by decide) (by decide)⟩
    · show Steps p.tables e below (T14.setTop (mkF m 122 #[.val (.long q0), .second, .val (.int p1), .val (.int p2), .val (.int p3), .val (.int bb), .val (.int (0 : Int32)), .val (.ref ar5), .val (.int (1 : Int32)), .val (.int ((1 : Int32) + ((5 : Int32) * bb))), .val (.int (if (0 : Int32) < (((1 : Int32) + ((5 : Int32) * bb)) + (dd - (4 : Int32))) then (((1 : Int32) + ((5 : Int32) * bb)) + (dd - (4 : Int32))) else (0 : Int32))), .val (.ref b12), .val (.int (1 : Int32))] [(.int (1 : Int32))])) _
      exact retN X14 hx (t := .boolean) Bd.returns (by simp) (hb hby at_122) hrq
    · show Q0 Z q0 p1 p2 p3 h0 n0 _ T14.heap _
      rw [e14]
      exact ⟨rfl, N14⟩
  · obtain ⟨_, _, ⟨T16, L16, k16, n16⟩, -, X16, ⟨Lc16, hQ16, l16, y16, z16⟩, st16⟩ := Jvm.LawKit.callS X1 hx (y := (⟨"com/example/libthrottle/libthrottle/stat/Span", "make", "(JIZ)[J"⟩ : MethodName)) hown (mvT hZ (hw _ (List.mem_of_getElem? (i := 0) rfl))) (mvT hZ (hw _ (List.mem_of_getElem? (i := 1) rfl))) (mvT hZ (hw _ (List.mem_of_getElem? (i := 2) rfl))) (mvT hZ (hw _ (List.mem_of_getElem? (i := 3) rfl))) (by decide) (backOf (W := 0) (rm1 l Z a0 hw [] q0 bb (1 : Int32) ((((1 : Int32) + bb) + (8 : Int32)) + ((4 : Int32) * (((5 : Int32) * bb) + (8 : Int32)))) h0 n0 Z0 S_slots (fun h => absurd h (by decide)) (fun _ => rfl) (own_z0 hb0 hb1) (own_zc hb0 hb1) (own_zp hb0 hb1)) hZ (hw _ (List.mem_of_getElem? (i := 3) rfl)) (hw _ (List.mem_of_getElem? (i := 2) rfl)) (by decide) (by decide)) (g := (mkF m 24 #[.val (.long q0), .second, .val (.int p1), .val (.int p2), .val (.int p3), .val (.int bb), .val (.int (1 : Int32)), .unset, .unset, .unset, .unset, .unset, .unset] [(.int (1 : Int32)), (.int bb), (.long q0)])) rfl (by rw [hml]; rfl) (argsL := [(.long q0), (.int bb), (.int (1 : Int32))]) (rest := []) (lenOf pd_2 rfl) rfl (by show 2 * 0 + _ ≤ _; exact Nat.le_of_eq rfl) (hb hby at_24) (fun _ _ => ⟨rfl, e1, (by decide : 0 + 1 ≤ _), (by decide : 0 + 356 ≤ _)⟩)
    dsimp only [Pt.U, Pt.locs, Pt.cells, Pt.slots] at X16 l16 y16 z16 st16 hQ16
    subst l16 y16 z16
    obtain ⟨ar16, kk16, rfl, Nq16, Kq16, hs16, Vq16⟩ := hQ16
    have N16 := Fr.app N1 Nq16
    have Z17 : n0 ≤ T16.heap.size := Nat.le_trans Z0 Kq16.1
    obtain ⟨_, _, ⟨T18, L18, k18, n18⟩, -, X18, ⟨Lc18, hQ18, l18, y18, z18⟩, st18⟩ := Jvm.LawKit.callS X16 hx (y := (⟨"com/example/libthrottle/libthrottle/stat/Span", "inRows", "([JI)Z"⟩ : MethodName)) hown (mvT hZ (hw _ (List.mem_of_getElem? (i := 18) rfl))) (mvT hZ (hw _ (List.mem_of_getElem? (i := 19) rfl))) (mvT hZ (hw _ (List.mem_of_getElem? (i := 2) rfl))) (mvT hZ (hw _ (List.mem_of_getElem? (i := 20) rfl))) (by decide) (backOf (W := 0) (rm5 l Z a0 hw [] ar16 bb kk16 ((((1 : Int32) + bb) + (8 : Int32)) + ((4 : Int32) * (((5 : Int32) * bb) + (8 : Int32)))) [(.long q0)] (.long (0 : Int64)) (1 : Int32) T16.heap n0 Z17 Vq16 (if_neg (own_rne hb0 hb1))) hZ (hw _ (List.mem_of_getElem? (i := 20) rfl)) (hw _ (List.mem_of_getElem? (i := 2) rfl)) (by decide) (by decide)) (g := (mkF m 33 #[.val (.long q0), .second, .val (.int p1), .val (.int p2), .val (.int p3), .val (.int bb), .val (.int (1 : Int32)), .val (.ref ar16), .unset, .unset, .unset, .unset, .unset] [(.int bb), (.ref ar16)])) rfl (by rw [hml]; rfl) (argsL := [(.ref ar16), (.int bb)]) (rest := []) (lenOf pd_3 rfl) rfl (by show 2 * 0 + _ ≤ _; exact Nat.le_of_eq rfl) (hb hby at_33) (fun _ _ => ⟨rfl, rfl, (by decide : 1 + 0 ≤ _), (by decide : 356 + 0 ≤ _)⟩)
    dsimp only [Pt.U, Pt.locs, Pt.cells, Pt.slots] at X18 l18 y18 z18 st18 hQ18
    subst l18 y18 z18
    obtain ⟨rfl, Nq18, hh18⟩ := hQ18
    have N18 := Fr.app N16 Nq18
    have e18 : T18.heap = T16.heap := hh18
    have pre19 : ∀ t, Steps p.tables e below (T18.setTop (mkF m 61 #[.val (.long q0), .second, .val (.int p1), .val (.int p2), .val (.int p3), .val (.int bb), .val (.int (1 : Int32)), .val (.ref ar16), .val (.int (1 : Int32)), .val (.int ((1 : Int32) + ((5 : Int32) * bb))), .unset, .unset, .unset] [(.int p3), (.int ((1 : Int32) + ((5 : Int32) * bb))), (.int (0 : Int32))])) t → Steps p.tables e below (s₁.setTop (entryFrame m #[(.long q0), (.int p1), (.int p2), (.int p3)] maxLocals)) t := fun t k => by
      refine pre3 t ?_
      show Steps p.tables e below (T1.setTop (mkF m 9 #[.val (.long q0), .second, .val (.int p1), .val (.int p2), .val (.int p3), .val (.int bb), .unset, .unset, .unset, .unset, .unset, .unset, .unset] [(.int (p2 &&& (1 : Int32)))])) _
      refine XS.ifNo X1.here hx rfl (hb hby at_9) rfl ((if0 _ _).trans (feq hc9_4).1) ?_
      show Steps p.tables e below (T1.setTop (mkF m 12 #[.val (.long q0), .second, .val (.int p1), .val (.int p2), .val (.int p3), .val (.int bb), .unset, .unset, .unset, .unset, .unset, .unset, .unset] [])) _
      refine XS.iconst X1.here hx rfl (hb hby at_12) ?_
      show Steps p.tables e below (T1.setTop (mkF m 13 #[.val (.long q0), .second, .val (.int p1), .val (.int p2), .val (.int p3), .val (.int bb), .unset, .unset, .unset, .unset, .unset, .unset, .unset] [(.int (1 : Int32))])) _
      refine XS.goto X1.here hx rfl (pc0 := 13) (pc' := 17) rfl (hb hby at_13) (by decide) (by decide) ?_
      show Steps p.tables e below (T1.setTop (mkF m 17 #[.val (.long q0), .second, .val (.int p1), .val (.int p2), .val (.int p3), .val (.int bb), .unset, .unset, .unset, .unset, .unset, .unset, .unset] [(.int (1 : Int32))])) _
      refine XS.istore X1.here hx rfl (hb hby at_17) rfl (l' := #[.val (.long q0), .second, .val (.int p1), .val (.int p2), .val (.int p3), .val (.int bb), .val (.int (1 : Int32)), .unset, .unset, .unset, .unset, .unset, .unset]) rfl ?_
      show Steps p.tables e below (T1.setTop (mkF m 19 #[.val (.long q0), .second, .val (.int p1), .val (.int p2), .val (.int p3), .val (.int bb), .val (.int (1 : Int32)), .unset, .unset, .unset, .unset, .unset, .unset] [])) _
      refine XS.lloadN X1.here hx rfl (hb hby at_19) rfl ?_
      show Steps p.tables e below (T1.setTop (mkF m 20 #[.val (.long q0), .second, .val (.int p1), .val (.int p2), .val (.int p3), .val (.int bb), .val (.int (1 : Int32)), .unset, .unset, .unset, .unset, .unset, .unset] [(.long q0)])) _
      refine XS.iload X1.here hx rfl (hb hby at_20) rfl ?_
      show Steps p.tables e below (T1.setTop (mkF m 22 #[.val (.long q0), .second, .val (.int p1), .val (.int p2), .val (.int p3), .val (.int bb), .val (.int (1 : Int32)), .unset, .unset, .unset, .unset, .unset, .unset] [(.int bb), (.long q0)])) _
      refine XS.iload X1.here hx rfl (hb hby at_22) rfl ?_
      show Steps p.tables e below (T1.setTop (mkF m 24 #[.val (.long q0), .second, .val (.int p1), .val (.int p2), .val (.int p3), .val (.int bb), .val (.int (1 : Int32)), .unset, .unset, .unset, .unset, .unset, .unset] [(.int (1 : Int32)), (.int bb), (.long q0)])) _
      refine st16 _ ?_
      show Steps p.tables e below (T16.setTop (mkF m 27 #[.val (.long q0), .second, .val (.int p1), .val (.int p2), .val (.int p3), .val (.int bb), .val (.int (1 : Int32)), .unset, .unset, .unset, .unset, .unset, .unset] [(.ref ar16)])) _
      refine XS.astore X16.here hx rfl (hb hby at_27) rfl rfl (l' := #[.val (.long q0), .second, .val (.int p1), .val (.int p2), .val (.int p3), .val (.int bb), .val (.int (1 : Int32)), .val (.ref ar16), .unset, .unset, .unset, .unset, .unset]) rfl ?_
      show Steps p.tables e below (T16.setTop (mkF m 29 #[.val (.long q0), .second, .val (.int p1), .val (.int p2), .val (.int p3), .val (.int bb), .val (.int (1 : Int32)), .val (.ref ar16), .unset, .unset, .unset, .unset, .unset] [])) _
      refine XS.aload X16.here hx rfl (hb hby at_29) rfl rfl ?_
      show Steps p.tables e below (T16.setTop (mkF m 31 #[.val (.long q0), .second, .val (.int p1), .val (.int p2), .val (.int p3), .val (.int bb), .val (.int (1 : Int32)), .val (.ref ar16), .unset, .unset, .unset, .unset, .unset] [(.ref ar16)])) _
      refine XS.iload X16.here hx rfl (hb hby at_31) rfl ?_
      show Steps p.tables e below (T16.setTop (mkF m 33 #[.val (.long q0), .second, .val (.int p1), .val (.int p2), .val (.int p3), .val (.int bb), .val (.int (1 : Int32)), .val (.ref ar16), .unset, .unset, .unset, .unset, .unset] [(.int bb), (.ref ar16)])) _
      refine st18 _ ?_
      show Steps p.tables e below (T18.setTop (mkF m 36 #[.val (.long q0), .second, .val (.int p1), .val (.int p2), .val (.int p3), .val (.int bb), .val (.int (1 : Int32)), .val (.ref ar16), .unset, .unset, .unset, .unset, .unset] [(.int (1 : Int32))])) _
      refine XS.iload X18.here hx rfl (hb hby at_36) rfl ?_
      show Steps p.tables e below (T18.setTop (mkF m 38 #[.val (.long q0), .second, .val (.int p1), .val (.int p2), .val (.int p3), .val (.int bb), .val (.int (1 : Int32)), .val (.ref ar16), .unset, .unset, .unset, .unset, .unset] [(.int (1 : Int32)), (.int (1 : Int32))])) _
      refine XS.icmpNo X18.here hx rfl (hb hby at_38) rfl (teq (rfl : (1 : Int32) = (1 : Int32))).2 ?_
      show Steps p.tables e below (T18.setTop (mkF m 41 #[.val (.long q0), .second, .val (.int p1), .val (.int p2), .val (.int p3), .val (.int bb), .val (.int (1 : Int32)), .val (.ref ar16), .unset, .unset, .unset, .unset, .unset] [])) _
      refine XS.iconst X18.here hx rfl (hb hby at_41) ?_
      show Steps p.tables e below (T18.setTop (mkF m 42 #[.val (.long q0), .second, .val (.int p1), .val (.int p2), .val (.int p3), .val (.int bb), .val (.int (1 : Int32)), .val (.ref ar16), .unset, .unset, .unset, .unset, .unset] [(.int (1 : Int32))])) _
      refine XS.goto X18.here hx rfl (pc0 := 42) (pc' := 46) rfl (hb hby at_42) (by decide) (by decide) ?_
      show Steps p.tables e below (T18.setTop (mkF m 46 #[.val (.long q0), .second, .val (.int p1), .val (.int p2), .val (.int p3), .val (.int bb), .val (.int (1 : Int32)), .val (.ref ar16), .unset, .unset, .unset, .unset, .unset] [(.int (1 : Int32))])) _
      refine XS.istore X18.here hx rfl (hb hby at_46) rfl (l' := #[.val (.long q0), .second, .val (.int p1), .val (.int p2), .val (.int p3), .val (.int bb), .val (.int (1 : Int32)), .val (.ref ar16), .val (.int (1 : Int32)), .unset, .unset, .unset, .unset]) rfl ?_
      show Steps p.tables e below (T18.setTop (mkF m 48 #[.val (.long q0), .second, .val (.int p1), .val (.int p2), .val (.int p3), .val (.int bb), .val (.int (1 : Int32)), .val (.ref ar16), .val (.int (1 : Int32)), .unset, .unset, .unset, .unset] [])) _
      refine XS.iconst X18.here hx rfl (hb hby at_48) ?_
      show Steps p.tables e below (T18.setTop (mkF m 49 #[.val (.long q0), .second, .val (.int p1), .val (.int p2), .val (.int p3), .val (.int bb), .val (.int (1 : Int32)), .val (.ref ar16), .val (.int (1 : Int32)), .unset, .unset, .unset, .unset] [(.int (1 : Int32))])) _
      refine XS.iconst X18.here hx rfl (hb hby at_49) ?_
      show Steps p.tables e below (T18.setTop (mkF m 50 #[.val (.long q0), .second, .val (.int p1), .val (.int p2), .val (.int p3), .val (.int bb), .val (.int (1 : Int32)), .val (.ref ar16), .val (.int (1 : Int32)), .unset, .unset, .unset, .unset] [(.int (5 : Int32)), (.int (1 : Int32))])) _
      refine XS.iload X18.here hx rfl (hb hby at_50) rfl ?_
      show Steps p.tables e below (T18.setTop (mkF m 52 #[.val (.long q0), .second, .val (.int p1), .val (.int p2), .val (.int p3), .val (.int bb), .val (.int (1 : Int32)), .val (.ref ar16), .val (.int (1 : Int32)), .unset, .unset, .unset, .unset] [(.int bb), (.int (5 : Int32)), (.int (1 : Int32))])) _
      refine XS.imul X18.here hx rfl (hb hby at_52) rfl ?_
      show Steps p.tables e below (T18.setTop (mkF m 53 #[.val (.long q0), .second, .val (.int p1), .val (.int p2), .val (.int p3), .val (.int bb), .val (.int (1 : Int32)), .val (.ref ar16), .val (.int (1 : Int32)), .unset, .unset, .unset, .unset] [(.int ((5 : Int32) * bb)), (.int (1 : Int32))])) _
      refine XS.iadd X18.here hx rfl (hb hby at_53) rfl ?_
      show Steps p.tables e below (T18.setTop (mkF m 54 #[.val (.long q0), .second, .val (.int p1), .val (.int p2), .val (.int p3), .val (.int bb), .val (.int (1 : Int32)), .val (.ref ar16), .val (.int (1 : Int32)), .unset, .unset, .unset, .unset] [(.int ((1 : Int32) + ((5 : Int32) * bb)))])) _
      refine XS.istore X18.here hx rfl (hb hby at_54) rfl (l' := #[.val (.long q0), .second, .val (.int p1), .val (.int p2), .val (.int p3), .val (.int bb), .val (.int (1 : Int32)), .val (.ref ar16), .val (.int (1 : Int32)), .val (.int ((1 : Int32) + ((5 : Int32) * bb))), .unset, .unset, .unset]) rfl ?_
      show Steps p.tables e below (T18.setTop (mkF m 56 #[.val (.long q0), .second, .val (.int p1), .val (.int p2), .val (.int p3), .val (.int bb), .val (.int (1 : Int32)), .val (.ref ar16), .val (.int (1 : Int32)), .val (.int ((1 : Int32) + ((5 : Int32) * bb))), .unset, .unset, .unset] [])) _
      refine XS.iconst X18.here hx rfl (hb hby at_56) ?_
      show Steps p.tables e below (T18.setTop (mkF m 57 #[.val (.long q0), .second, .val (.int p1), .val (.int p2), .val (.int p3), .val (.int bb), .val (.int (1 : Int32)), .val (.ref ar16), .val (.int (1 : Int32)), .val (.int ((1 : Int32) + ((5 : Int32) * bb))), .unset, .unset, .unset] [(.int (0 : Int32))])) _
      refine XS.iload X18.here hx rfl (hb hby at_57) rfl ?_
      show Steps p.tables e below (T18.setTop (mkF m 59 #[.val (.long q0), .second, .val (.int p1), .val (.int p2), .val (.int p3), .val (.int bb), .val (.int (1 : Int32)), .val (.ref ar16), .val (.int (1 : Int32)), .val (.int ((1 : Int32) + ((5 : Int32) * bb))), .unset, .unset, .unset] [(.int ((1 : Int32) + ((5 : Int32) * bb))), (.int (0 : Int32))])) _
      refine XS.iload X18.here hx rfl (hb hby at_59) rfl ?_
      exact k
    obtain ⟨T20, dd, Lx20, X20, e20, N20, hd0, hd1, pre20⟩ : ∃ (T20 : State) (dd : Int32) (Lx20 : List Loc), Stand p l e room_1 s0 m #[(.long q0), (.int p1), (.int p2), (.int p3)] below meth c T20 Lx20 1 356 ∧ T20.heap = T16.heap ∧ Fr n0 Lx20 ∧ (0 ≤ dd.toInt) ∧ (dd.toInt ≤ 7) ∧ (∀ t, Steps p.tables e below (T20.setTop (mkF m 64 #[.val (.long q0), .second, .val (.int p1), .val (.int p2), .val (.int p3), .val (.int bb), .val (.int (1 : Int32)), .val (.ref ar16), .val (.int (1 : Int32)), .val (.int ((1 : Int32) + ((5 : Int32) * bb))), .unset, .unset, .unset] [(.int dd), (.int ((1 : Int32) + ((5 : Int32) * bb))), (.int (0 : Int32))])) t → Steps p.tables e below (s₁.setTop (entryFrame m #[(.long q0), (.int p1), (.int p2), (.int p3)] maxLocals)) t) := by
      have pre21 : ∀ t, Steps p.tables e below (T18.setTop (mkF m 64 #[.val (.long q0), .second, .val (.int p1), .val (.int p2), .val (.int p3), .val (.int bb), .val (.int (1 : Int32)), .val (.ref ar16), .val (.int (1 : Int32)), .val (.int ((1 : Int32) + ((5 : Int32) * bb))), .unset, .unset, .unset] [(.int (p3 &&& (7 : Int32))), (.int ((1 : Int32) + ((5 : Int32) * bb))), (.int (0 : Int32))])) t → Steps p.tables e below (s₁.setTop (entryFrame m #[(.long q0), (.int p1), (.int p2), (.int p3)] maxLocals)) t := fun t k => by
        refine pre19 t ?_
        show Steps p.tables e below (T18.setTop (mkF m 61 #[.val (.long q0), .second, .val (.int p1), .val (.int p2), .val (.int p3), .val (.int bb), .val (.int (1 : Int32)), .val (.ref ar16), .val (.int (1 : Int32)), .val (.int ((1 : Int32) + ((5 : Int32) * bb))), .unset, .unset, .unset] [(.int p3), (.int ((1 : Int32) + ((5 : Int32) * bb))), (.int (0 : Int32))])) _
        refine XS.bipush X18.here hx rfl (hb hby at_61) ?_
        show Steps p.tables e below (T18.setTop (mkF m 63 #[.val (.long q0), .second, .val (.int p1), .val (.int p2), .val (.int p3), .val (.int bb), .val (.int (1 : Int32)), .val (.ref ar16), .val (.int (1 : Int32)), .val (.int ((1 : Int32) + ((5 : Int32) * bb))), .unset, .unset, .unset] [(.int (7 : Int32)), (.int p3), (.int ((1 : Int32) + ((5 : Int32) * bb))), (.int (0 : Int32))])) _
        refine XS.iand X18.here hx rfl (hb hby at_63) rfl ?_
        exact k
      exact ⟨T18, (p3 &&& (7 : Int32)), _, X18, e18, N18, (own_m7 p3).1, (own_m7 p3).2, pre21⟩
    obtain ⟨_, _, ⟨T22, L22, k22, n22⟩, -, X22, ⟨Lc22, hQ22, l22, y22, z22⟩, st22⟩ := Jvm.LawKit.callS X20 hx (y := (⟨"java/lang/Math", "max", "(II)I"⟩ : MethodName)) hown (mvT hZ (hw _ (List.mem_of_getElem? (i := 21) rfl))) (mvT hZ (hw _ (List.mem_of_getElem? (i := 22) rfl))) (mvT hZ (hw _ (List.mem_of_getElem? (i := 23) rfl))) (mvT hZ (hw _ (List.mem_of_getElem? (i := 24) rfl))) (by decide) (backOf (W := 0) (rm6 l Z a0 hw [] (0 : Int32) (((1 : Int32) + ((5 : Int32) * bb)) + (dd - (4 : Int32))) T16.heap n0 Z17 ) hZ (hw _ (List.mem_of_getElem? (i := 24) rfl)) (hw _ (List.mem_of_getElem? (i := 23) rfl)) (by decide) (by decide)) (g := (mkF m 67 #[.val (.long q0), .second, .val (.int p1), .val (.int p2), .val (.int p3), .val (.int bb), .val (.int (1 : Int32)), .val (.ref ar16), .val (.int (1 : Int32)), .val (.int ((1 : Int32) + ((5 : Int32) * bb))), .unset, .unset, .unset] [(.int (((1 : Int32) + ((5 : Int32) * bb)) + (dd - (4 : Int32)))), (.int (0 : Int32))])) rfl (by rw [hml]; rfl) (argsL := [(.int (0 : Int32)), (.int (((1 : Int32) + ((5 : Int32) * bb)) + (dd - (4 : Int32))))]) (rest := []) (lenOf pd_4 rfl) rfl (by show 2 * 0 + _ ≤ _; exact Nat.le_of_eq rfl) (hb hby at_67) (fun _ _ => ⟨rfl, e20, (by decide : 1 + 0 ≤ _), (by decide : 356 + 0 ≤ _)⟩)
    dsimp only [Pt.U, Pt.locs, Pt.cells, Pt.slots] at X22 l22 y22 z22 st22 hQ22
    subst l22 y22 z22
    obtain ⟨rfl, Nq22, hh22⟩ := hQ22
    have N22 := Fr.app N20 Nq22
    have e22 : T22.heap = T16.heap := hh22
    obtain ⟨T23, h23, k23, X23, e23, E23, A23, st23⟩ := newP X22 hx hZ (hw _ (List.mem_of_getElem? (i := 17) rfl)) e22 (g := (mkF m 74 #[.val (.long q0), .second, .val (.int p1), .val (.int p2), .val (.int p3), .val (.int bb), .val (.int (1 : Int32)), .val (.ref ar16), .val (.int (1 : Int32)), .val (.int ((1 : Int32) + ((5 : Int32) * bb))), .val (.int (if (0 : Int32) < (((1 : Int32) + ((5 : Int32) * bb)) + (dd - (4 : Int32))) then (((1 : Int32) + ((5 : Int32) * bb)) + (dd - (4 : Int32))) else (0 : Int32))), .unset, .unset] [(.int (if (0 : Int32) < (((1 : Int32) + ((5 : Int32) * bb)) + (dd - (4 : Int32))) then (((1 : Int32) + ((5 : Int32) * bb)) + (dd - (4 : Int32))) else (0 : Int32)))])) rfl (hb hby at_74) rfl (own_l0 hb0 hb1 hd0 hd1) (cap := 79) (own_lc hb0 hb1 hd0 hd1) (by decide) (by decide) (by decide)
    obtain ⟨b23, g23⟩ : ∃ z, z = T16.heap.size := ⟨_, rfl⟩
    rw [← g23] at A23 st23
    have g_b23 : n0 ≤ b23 := Nat.le_trans Z17 (Nat.le_of_eq g23.symm)
    have Z24 : n0 ≤ h23.size := Nat.le_trans Z17 E23.1
    have V23 : Arv Z h23 b23 k23 .long (if (0 : Int32) < (((1 : Int32) + ((5 : Int32) * bb)) + (dd - (4 : Int32))) then (((1 : Int32) + ((5 : Int32) * bb)) + (dd - (4 : Int32))) else (0 : Int32)) [] (.long (0 : Int64)) := (Arv.new A23 (own_l0 hb0 hb1 hd0 hd1))
    obtain ⟨_, _, ⟨T25, L25, k25, n25⟩, -, X25, ⟨Lc25, hQ25, l25, y25, z25⟩, st25⟩ := Jvm.LawKit.callS X23 hx (y := (⟨"com/example/libthrottle/libthrottle/stat/Span", "inRows", "([JI)Z"⟩ : MethodName)) hown (mvT hZ (hw _ (List.mem_of_getElem? (i := 18) rfl))) (mvT hZ (hw _ (List.mem_of_getElem? (i := 19) rfl))) (mvT hZ (hw _ (List.mem_of_getElem? (i := 2) rfl))) (mvT hZ (hw _ (List.mem_of_getElem? (i := 20) rfl))) (by decide) (backOf (W := 0) (rm5 l Z a0 hw [] b23 bb k23 (if (0 : Int32) < (((1 : Int32) + ((5 : Int32) * bb)) + (dd - (4 : Int32))) then (((1 : Int32) + ((5 : Int32) * bb)) + (dd - (4 : Int32))) else (0 : Int32)) [] (.long (0 : Int64)) (if (if (0 : Int32) < (((1 : Int32) + ((5 : Int32) * bb)) + (dd - (4 : Int32))) then (((1 : Int32) + ((5 : Int32) * bb)) + (dd - (4 : Int32))) else (0 : Int32)) = ((1 : Int32) + ((5 : Int32) * bb)) then (0 : Int32) else (1 : Int32)) h23 n0 Z24 V23 rfl) hZ (hw _ (List.mem_of_getElem? (i := 20) rfl)) (hw _ (List.mem_of_getElem? (i := 2) rfl)) (by decide) (by decide)) (g := (mkF m 82 #[.val (.long q0), .second, .val (.int p1), .val (.int p2), .val (.int p3), .val (.int bb), .val (.int (1 : Int32)), .val (.ref ar16), .val (.int (1 : Int32)), .val (.int ((1 : Int32) + ((5 : Int32) * bb))), .val (.int (if (0 : Int32) < (((1 : Int32) + ((5 : Int32) * bb)) + (dd - (4 : Int32))) then (((1 : Int32) + ((5 : Int32) * bb)) + (dd - (4 : Int32))) else (0 : Int32))), .val (.ref b23), .unset] [(.int bb), (.ref b23)])) rfl (by rw [hml]; rfl) (argsL := [(.ref b23), (.int bb)]) (rest := []) (lenOf pd_3 rfl) rfl (by show 2 * 0 + _ ≤ _; exact Nat.le_of_eq rfl) (hb hby at_82) (fun _ _ => ⟨rfl, e23, (by decide : 2 + 0 ≤ _), (by decide : 435 + 0 ≤ _)⟩)
    dsimp only [Pt.U, Pt.locs, Pt.cells, Pt.slots] at X25 l25 y25 z25 st25 hQ25
    subst l25 y25 z25
    obtain ⟨rfl, Nq25, hh25⟩ := hQ25
    have N25 := Fr.app N22 Nq25
    have e25 : T25.heap = h23 := hh25
    have pre26 : ∀ t, Steps p.tables e below (T25.setTop (mkF m 122 #[.val (.long q0), .second, .val (.int p1), .val (.int p2), .val (.int p3), .val (.int bb), .val (.int (1 : Int32)), .val (.ref ar16), .val (.int (1 : Int32)), .val (.int ((1 : Int32) + ((5 : Int32) * bb))), .val (.int (if (0 : Int32) < (((1 : Int32) + ((5 : Int32) * bb)) + (dd - (4 : Int32))) then (((1 : Int32) + ((5 : Int32) * bb)) + (dd - (4 : Int32))) else (0 : Int32))), .val (.ref b23), .val (.int (1 : Int32))] [(.int (1 : Int32))])) t → Steps p.tables e below (s₁.setTop (entryFrame m #[(.long q0), (.int p1), (.int p2), (.int p3)] maxLocals)) t := fun t k => by
      refine pre20 t ?_
      show Steps p.tables e below (T20.setTop (mkF m 64 #[.val (.long q0), .second, .val (.int p1), .val (.int p2), .val (.int p3), .val (.int bb), .val (.int (1 : Int32)), .val (.ref ar16), .val (.int (1 : Int32)), .val (.int ((1 : Int32) + ((5 : Int32) * bb))), .unset, .unset, .unset] [(.int dd), (.int ((1 : Int32) + ((5 : Int32) * bb))), (.int (0 : Int32))])) _
      refine XS.iconst X20.here hx rfl (hb hby at_64) ?_
      show Steps p.tables e below (T20.setTop (mkF m 65 #[.val (.long q0), .second, .val (.int p1), .val (.int p2), .val (.int p3), .val (.int bb), .val (.int (1 : Int32)), .val (.ref ar16), .val (.int (1 : Int32)), .val (.int ((1 : Int32) + ((5 : Int32) * bb))), .unset, .unset, .unset] [(.int (4 : Int32)), (.int dd), (.int ((1 : Int32) + ((5 : Int32) * bb))), (.int (0 : Int32))])) _
      refine XS.isub X20.here hx rfl (hb hby at_65) rfl ?_
      show Steps p.tables e below (T20.setTop (mkF m 66 #[.val (.long q0), .second, .val (.int p1), .val (.int p2), .val (.int p3), .val (.int bb), .val (.int (1 : Int32)), .val (.ref ar16), .val (.int (1 : Int32)), .val (.int ((1 : Int32) + ((5 : Int32) * bb))), .unset, .unset, .unset] [(.int (dd - (4 : Int32))), (.int ((1 : Int32) + ((5 : Int32) * bb))), (.int (0 : Int32))])) _
      refine XS.iadd X20.here hx rfl (hb hby at_66) rfl ?_
      show Steps p.tables e below (T20.setTop (mkF m 67 #[.val (.long q0), .second, .val (.int p1), .val (.int p2), .val (.int p3), .val (.int bb), .val (.int (1 : Int32)), .val (.ref ar16), .val (.int (1 : Int32)), .val (.int ((1 : Int32) + ((5 : Int32) * bb))), .unset, .unset, .unset] [(.int (((1 : Int32) + ((5 : Int32) * bb)) + (dd - (4 : Int32)))), (.int (0 : Int32))])) _
      refine st22 _ ?_
      show Steps p.tables e below (T22.setTop (mkF m 70 #[.val (.long q0), .second, .val (.int p1), .val (.int p2), .val (.int p3), .val (.int bb), .val (.int (1 : Int32)), .val (.ref ar16), .val (.int (1 : Int32)), .val (.int ((1 : Int32) + ((5 : Int32) * bb))), .unset, .unset, .unset] [(.int (if (0 : Int32) < (((1 : Int32) + ((5 : Int32) * bb)) + (dd - (4 : Int32))) then (((1 : Int32) + ((5 : Int32) * bb)) + (dd - (4 : Int32))) else (0 : Int32)))])) _
      refine XS.istore X22.here hx rfl (hb hby at_70) rfl (l' := #[.val (.long q0), .second, .val (.int p1), .val (.int p2), .val (.int p3), .val (.int bb), .val (.int (1 : Int32)), .val (.ref ar16), .val (.int (1 : Int32)), .val (.int ((1 : Int32) + ((5 : Int32) * bb))), .val (.int (if (0 : Int32) < (((1 : Int32) + ((5 : Int32) * bb)) + (dd - (4 : Int32))) then (((1 : Int32) + ((5 : Int32) * bb)) + (dd - (4 : Int32))) else (0 : Int32))), .unset, .unset]) rfl ?_
      show Steps p.tables e below (T22.setTop (mkF m 72 #[.val (.long q0), .second, .val (.int p1), .val (.int p2), .val (.int p3), .val (.int bb), .val (.int (1 : Int32)), .val (.ref ar16), .val (.int (1 : Int32)), .val (.int ((1 : Int32) + ((5 : Int32) * bb))), .val (.int (if (0 : Int32) < (((1 : Int32) + ((5 : Int32) * bb)) + (dd - (4 : Int32))) then (((1 : Int32) + ((5 : Int32) * bb)) + (dd - (4 : Int32))) else (0 : Int32))), .unset, .unset] [])) _
      refine XS.iload X22.here hx rfl (hb hby at_72) rfl ?_
      show Steps p.tables e below (T22.setTop (mkF m 74 #[.val (.long q0), .second, .val (.int p1), .val (.int p2), .val (.int p3), .val (.int bb), .val (.int (1 : Int32)), .val (.ref ar16), .val (.int (1 : Int32)), .val (.int ((1 : Int32) + ((5 : Int32) * bb))), .val (.int (if (0 : Int32) < (((1 : Int32) + ((5 : Int32) * bb)) + (dd - (4 : Int32))) then (((1 : Int32) + ((5 : Int32) * bb)) + (dd - (4 : Int32))) else (0 : Int32))), .unset, .unset] [(.int (if (0 : Int32) < (((1 : Int32) + ((5 : Int32) * bb)) + (dd - (4 : Int32))) then (((1 : Int32) + ((5 : Int32) * bb)) + (dd - (4 : Int32))) else (0 : Int32)))])) _
      refine st23 _ ?_
      show Steps p.tables e below (T23.setTop (mkF m 76 #[.val (.long q0), .second, .val (.int p1), .val (.int p2), .val (.int p3), .val (.int bb), .val (.int (1 : Int32)), .val (.ref ar16), .val (.int (1 : Int32)), .val (.int ((1 : Int32) + ((5 : Int32) * bb))), .val (.int (if (0 : Int32) < (((1 : Int32) + ((5 : Int32) * bb)) + (dd - (4 : Int32))) then (((1 : Int32) + ((5 : Int32) * bb)) + (dd - (4 : Int32))) else (0 : Int32))), .unset, .unset] [(.ref b23)])) _
      refine XS.astore X23.here hx rfl (hb hby at_76) rfl rfl (l' := #[.val (.long q0), .second, .val (.int p1), .val (.int p2), .val (.int p3), .val (.int bb), .val (.int (1 : Int32)), .val (.ref ar16), .val (.int (1 : Int32)), .val (.int ((1 : Int32) + ((5 : Int32) * bb))), .val (.int (if (0 : Int32) < (((1 : Int32) + ((5 : Int32) * bb)) + (dd - (4 : Int32))) then (((1 : Int32) + ((5 : Int32) * bb)) + (dd - (4 : Int32))) else (0 : Int32))), .val (.ref b23), .unset]) rfl ?_
      show Steps p.tables e below (T23.setTop (mkF m 78 #[.val (.long q0), .second, .val (.int p1), .val (.int p2), .val (.int p3), .val (.int bb), .val (.int (1 : Int32)), .val (.ref ar16), .val (.int (1 : Int32)), .val (.int ((1 : Int32) + ((5 : Int32) * bb))), .val (.int (if (0 : Int32) < (((1 : Int32) + ((5 : Int32) * bb)) + (dd - (4 : Int32))) then (((1 : Int32) + ((5 : Int32) * bb)) + (dd - (4 : Int32))) else (0 : Int32))), .val (.ref b23), .unset] [])) _
      refine XS.aload X23.here hx rfl (hb hby at_78) rfl rfl ?_
      show Steps p.tables e below (T23.setTop (mkF m 80 #[.val (.long q0), .second, .val (.int p1), .val (.int p2), .val (.int p3), .val (.int bb), .val (.int (1 : Int32)), .val (.ref ar16), .val (.int (1 : Int32)), .val (.int ((1 : Int32) + ((5 : Int32) * bb))), .val (.int (if (0 : Int32) < (((1 : Int32) + ((5 : Int32) * bb)) + (dd - (4 : Int32))) then (((1 : Int32) + ((5 : Int32) * bb)) + (dd - (4 : Int32))) else (0 : Int32))), .val (.ref b23), .unset] [(.ref b23)])) _
      refine XS.iload X23.here hx rfl (hb hby at_80) rfl ?_
      show Steps p.tables e below (T23.setTop (mkF m 82 #[.val (.long q0), .second, .val (.int p1), .val (.int p2), .val (.int p3), .val (.int bb), .val (.int (1 : Int32)), .val (.ref ar16), .val (.int (1 : Int32)), .val (.int ((1 : Int32) + ((5 : Int32) * bb))), .val (.int (if (0 : Int32) < (((1 : Int32) + ((5 : Int32) * bb)) + (dd - (4 : Int32))) then (((1 : Int32) + ((5 : Int32) * bb)) + (dd - (4 : Int32))) else (0 : Int32))), .val (.ref b23), .unset] [(.int bb), (.ref b23)])) _
      refine st25 _ ?_
      show Steps p.tables e below (T25.setTop (mkF m 85 #[.val (.long q0), .second, .val (.int p1), .val (.int p2), .val (.int p3), .val (.int bb), .val (.int (1 : Int32)), .val (.ref ar16), .val (.int (1 : Int32)), .val (.int ((1 : Int32) + ((5 : Int32) * bb))), .val (.int (if (0 : Int32) < (((1 : Int32) + ((5 : Int32) * bb)) + (dd - (4 : Int32))) then (((1 : Int32) + ((5 : Int32) * bb)) + (dd - (4 : Int32))) else (0 : Int32))), .val (.ref b23), .unset] [(.int (if (if (0 : Int32) < (((1 : Int32) + ((5 : Int32) * bb)) + (dd - (4 : Int32))) then (((1 : Int32) + ((5 : Int32) * bb)) + (dd - (4 : Int32))) else (0 : Int32)) = ((1 : Int32) + ((5 : Int32) * bb)) then (0 : Int32) else (1 : Int32)))])) _
      refine XS.iload X25.here hx rfl (hb hby at_85) rfl ?_
      show Steps p.tables e below (T25.setTop (mkF m 87 #[.val (.long q0), .second, .val (.int p1), .val (.int p2), .val (.int p3), .val (.int bb), .val (.int (1 : Int32)), .val (.ref ar16), .val (.int (1 : Int32)), .val (.int ((1 : Int32) + ((5 : Int32) * bb))), .val (.int (if (0 : Int32) < (((1 : Int32) + ((5 : Int32) * bb)) + (dd - (4 : Int32))) then (((1 : Int32) + ((5 : Int32) * bb)) + (dd - (4 : Int32))) else (0 : Int32))), .val (.ref b23), .unset] [(.int (if (0 : Int32) < (((1 : Int32) + ((5 : Int32) * bb)) + (dd - (4 : Int32))) then (((1 : Int32) + ((5 : Int32) * bb)) + (dd - (4 : Int32))) else (0 : Int32))), (.int (if (if (0 : Int32) < (((1 : Int32) + ((5 : Int32) * bb)) + (dd - (4 : Int32))) then (((1 : Int32) + ((5 : Int32) * bb)) + (dd - (4 : Int32))) else (0 : Int32)) = ((1 : Int32) + ((5 : Int32) * bb)) then (0 : Int32) else (1 : Int32)))])) _
      refine XS.iload X25.here hx rfl (hb hby at_87) rfl ?_
      show Steps p.tables e below (T25.setTop (mkF m 89 #[.val (.long q0), .second, .val (.int p1), .val (.int p2), .val (.int p3), .val (.int bb), .val (.int (1 : Int32)), .val (.ref ar16), .val (.int (1 : Int32)), .val (.int ((1 : Int32) + ((5 : Int32) * bb))), .val (.int (if (0 : Int32) < (((1 : Int32) + ((5 : Int32) * bb)) + (dd - (4 : Int32))) then (((1 : Int32) + ((5 : Int32) * bb)) + (dd - (4 : Int32))) else (0 : Int32))), .val (.ref b23), .unset] [(.int ((1 : Int32) + ((5 : Int32) * bb))), (.int (if (0 : Int32) < (((1 : Int32) + ((5 : Int32) * bb)) + (dd - (4 : Int32))) then (((1 : Int32) + ((5 : Int32) * bb)) + (dd - (4 : Int32))) else (0 : Int32))), (.int (if (if (0 : Int32) < (((1 : Int32) + ((5 : Int32) * bb)) + (dd - (4 : Int32))) then (((1 : Int32) + ((5 : Int32) * bb)) + (dd - (4 : Int32))) else (0 : Int32)) = ((1 : Int32) + ((5 : Int32) * bb)) then (0 : Int32) else (1 : Int32)))])) _
      refine own_boolC (g := (mkF m 89 #[.val (.long q0), .second, .val (.int p1), .val (.int p2), .val (.int p3), .val (.int bb), .val (.int (1 : Int32)), .val (.ref ar16), .val (.int (1 : Int32)), .val (.int ((1 : Int32) + ((5 : Int32) * bb))), .val (.int (if (0 : Int32) < (((1 : Int32) + ((5 : Int32) * bb)) + (dd - (4 : Int32))) then (((1 : Int32) + ((5 : Int32) * bb)) + (dd - (4 : Int32))) else (0 : Int32))), .val (.ref b23), .unset] [(.int ((1 : Int32) + ((5 : Int32) * bb))), (.int (if (0 : Int32) < (((1 : Int32) + ((5 : Int32) * bb)) + (dd - (4 : Int32))) then (((1 : Int32) + ((5 : Int32) * bb)) + (dd - (4 : Int32))) else (0 : Int32))), (.int (if (if (0 : Int32) < (((1 : Int32) + ((5 : Int32) * bb)) + (dd - (4 : Int32))) then (((1 : Int32) + ((5 : Int32) * bb)) + (dd - (4 : Int32))) else (0 : Int32)) = ((1 : Int32) + ((5 : Int32) * bb)) then (0 : Int32) else (1 : Int32)))])) X25.here hx rfl (hb hby at_89) (hb hby at_92) (hb hby at_93) (hb hby at_96) rfl (by exact own_b_eq _ _) ?_
      show Steps p.tables e below (T25.setTop (mkF m 97 #[.val (.long q0), .second, .val (.int p1), .val (.int p2), .val (.int p3), .val (.int bb), .val (.int (1 : Int32)), .val (.ref ar16), .val (.int (1 : Int32)), .val (.int ((1 : Int32) + ((5 : Int32) * bb))), .val (.int (if (0 : Int32) < (((1 : Int32) + ((5 : Int32) * bb)) + (dd - (4 : Int32))) then (((1 : Int32) + ((5 : Int32) * bb)) + (dd - (4 : Int32))) else (0 : Int32))), .val (.ref b23), .unset] [(.int (if (if (0 : Int32) < (((1 : Int32) + ((5 : Int32) * bb)) + (dd - (4 : Int32))) then (((1 : Int32) + ((5 : Int32) * bb)) + (dd - (4 : Int32))) else (0 : Int32)) = ((1 : Int32) + ((5 : Int32) * bb)) then (0 : Int32) else (1 : Int32))), (.int (if (if (0 : Int32) < (((1 : Int32) + ((5 : Int32) * bb)) + (dd - (4 : Int32))) then (((1 : Int32) + ((5 : Int32) * bb)) + (dd - (4 : Int32))) else (0 : Int32)) = ((1 : Int32) + ((5 : Int32) * bb)) then (0 : Int32) else (1 : Int32)))])) _
      refine XS.icmpNo X25.here hx rfl (hb hby at_97) rfl (teq (rfl : (if (if (0 : Int32) < (((1 : Int32) + ((5 : Int32) * bb)) + (dd - (4 : Int32))) then (((1 : Int32) + ((5 : Int32) * bb)) + (dd - (4 : Int32))) else (0 : Int32)) = ((1 : Int32) + ((5 : Int32) * bb)) then (0 : Int32) else (1 : Int32)) = (if (if (0 : Int32) < (((1 : Int32) + ((5 : Int32) * bb)) + (dd - (4 : Int32))) then (((1 : Int32) + ((5 : Int32) * bb)) + (dd - (4 : Int32))) else (0 : Int32)) = ((1 : Int32) + ((5 : Int32) * bb)) then (0 : Int32) else (1 : Int32)))).2 ?_
      show Steps p.tables e below (T25.setTop (mkF m 100 #[.val (.long q0), .second, .val (.int p1), .val (.int p2), .val (.int p3), .val (.int bb), .val (.int (1 : Int32)), .val (.ref ar16), .val (.int (1 : Int32)), .val (.int ((1 : Int32) + ((5 : Int32) * bb))), .val (.int (if (0 : Int32) < (((1 : Int32) + ((5 : Int32) * bb)) + (dd - (4 : Int32))) then (((1 : Int32) + ((5 : Int32) * bb)) + (dd - (4 : Int32))) else (0 : Int32))), .val (.ref b23), .unset] [])) _
      refine XS.iconst X25.here hx rfl (hb hby at_100) ?_
      show Steps p.tables e below (T25.setTop (mkF m 101 #[.val (.long q0), .second, .val (.int p1), .val (.int p2), .val (.int p3), .val (.int bb), .val (.int (1 : Int32)), .val (.ref ar16), .val (.int (1 : Int32)), .val (.int ((1 : Int32) + ((5 : Int32) * bb))), .val (.int (if (0 : Int32) < (((1 : Int32) + ((5 : Int32) * bb)) + (dd - (4 : Int32))) then (((1 : Int32) + ((5 : Int32) * bb)) + (dd - (4 : Int32))) else (0 : Int32))), .val (.ref b23), .unset] [(.int (1 : Int32))])) _
      refine XS.goto X25.here hx rfl (pc0 := 101) (pc' := 105) rfl (hb hby at_101) (by decide) (by decide) ?_
      show Steps p.tables e below (T25.setTop (mkF m 105 #[.val (.long q0), .second, .val (.int p1), .val (.int p2), .val (.int p3), .val (.int bb), .val (.int (1 : Int32)), .val (.ref ar16), .val (.int (1 : Int32)), .val (.int ((1 : Int32) + ((5 : Int32) * bb))), .val (.int (if (0 : Int32) < (((1 : Int32) + ((5 : Int32) * bb)) + (dd - (4 : Int32))) then (((1 : Int32) + ((5 : Int32) * bb)) + (dd - (4 : Int32))) else (0 : Int32))), .val (.ref b23), .unset] [(.int (1 : Int32))])) _
      refine XS.istore X25.here hx rfl (hb hby at_105) rfl (l' := #[.val (.long q0), .second, .val (.int p1), .val (.int p2), .val (.int p3), .val (.int bb), .val (.int (1 : Int32)), .val (.ref ar16), .val (.int (1 : Int32)), .val (.int ((1 : Int32) + ((5 : Int32) * bb))), .val (.int (if (0 : Int32) < (((1 : Int32) + ((5 : Int32) * bb)) + (dd - (4 : Int32))) then (((1 : Int32) + ((5 : Int32) * bb)) + (dd - (4 : Int32))) else (0 : Int32))), .val (.ref b23), .val (.int (1 : Int32))]) rfl ?_
      show Steps p.tables e below (T25.setTop (mkF m 107 #[.val (.long q0), .second, .val (.int p1), .val (.int p2), .val (.int p3), .val (.int bb), .val (.int (1 : Int32)), .val (.ref ar16), .val (.int (1 : Int32)), .val (.int ((1 : Int32) + ((5 : Int32) * bb))), .val (.int (if (0 : Int32) < (((1 : Int32) + ((5 : Int32) * bb)) + (dd - (4 : Int32))) then (((1 : Int32) + ((5 : Int32) * bb)) + (dd - (4 : Int32))) else (0 : Int32))), .val (.ref b23), .val (.int (1 : Int32))] [])) _
      refine XS.iload X25.here hx rfl (hb hby at_107) rfl ?_
      show Steps p.tables e below (T25.setTop (mkF m 109 #[.val (.long q0), .second, .val (.int p1), .val (.int p2), .val (.int p3), .val (.int bb), .val (.int (1 : Int32)), .val (.ref ar16), .val (.int (1 : Int32)), .val (.int ((1 : Int32) + ((5 : Int32) * bb))), .val (.int (if (0 : Int32) < (((1 : Int32) + ((5 : Int32) * bb)) + (dd - (4 : Int32))) then (((1 : Int32) + ((5 : Int32) * bb)) + (dd - (4 : Int32))) else (0 : Int32))), .val (.ref b23), .val (.int (1 : Int32))] [(.int (1 : Int32))])) _
      refine XS.ifNo X25.here hx rfl (hb hby at_109) rfl ((if0 _ _).trans (feq (by decide : ¬ ((1 : Int32) = (0 : Int32)))).1) ?_
      show Steps p.tables e below (T25.setTop (mkF m 112 #[.val (.long q0), .second, .val (.int p1), .val (.int p2), .val (.int p3), .val (.int bb), .val (.int (1 : Int32)), .val (.ref ar16), .val (.int (1 : Int32)), .val (.int ((1 : Int32) + ((5 : Int32) * bb))), .val (.int (if (0 : Int32) < (((1 : Int32) + ((5 : Int32) * bb)) + (dd - (4 : Int32))) then (((1 : Int32) + ((5 : Int32) * bb)) + (dd - (4 : Int32))) else (0 : Int32))), .val (.ref b23), .val (.int (1 : Int32))] [])) _
      refine XS.iload X25.here hx rfl (hb hby at_112) rfl ?_
      show Steps p.tables e below (T25.setTop (mkF m 114 #[.val (.long q0), .second, .val (.int p1), .val (.int p2), .val (.int p3), .val (.int bb), .val (.int (1 : Int32)), .val (.ref ar16), .val (.int (1 : Int32)), .val (.int ((1 : Int32) + ((5 : Int32) * bb))), .val (.int (if (0 : Int32) < (((1 : Int32) + ((5 : Int32) * bb)) + (dd - (4 : Int32))) then (((1 : Int32) + ((5 : Int32) * bb)) + (dd - (4 : Int32))) else (0 : Int32))), .val (.ref b23), .val (.int (1 : Int32))] [(.int (1 : Int32))])) _
      refine XS.ifNo X25.here hx rfl (hb hby at_114) rfl ((if0 _ _).trans (feq (by decide : ¬ ((1 : Int32) = (0 : Int32)))).1) ?_
      show Steps p.tables e below (T25.setTop (mkF m 117 #[.val (.long q0), .second, .val (.int p1), .val (.int p2), .val (.int p3), .val (.int bb), .val (.int (1 : Int32)), .val (.ref ar16), .val (.int (1 : Int32)), .val (.int ((1 : Int32) + ((5 : Int32) * bb))), .val (.int (if (0 : Int32) < (((1 : Int32) + ((5 : Int32) * bb)) + (dd - (4 : Int32))) then (((1 : Int32) + ((5 : Int32) * bb)) + (dd - (4 : Int32))) else (0 : Int32))), .val (.ref b23), .val (.int (1 : Int32))] [])) _
      refine XS.iconst X25.here hx rfl (hb hby at_117) ?_
      show Steps p.tables e below (T25.setTop (mkF m 118 #[.val (.long q0), .second, .val (.int p1), .val (.int p2), .val (.int p3), .val (.int bb), .val (.int (1 : Int32)), .val (.ref ar16), .val (.int (1 : Int32)), .val (.int ((1 : Int32) + ((5 : Int32) * bb))), .val (.int (if (0 : Int32) < (((1 : Int32) + ((5 : Int32) * bb)) + (dd - (4 : Int32))) then (((1 : Int32) + ((5 : Int32) * bb)) + (dd - (4 : Int32))) else (0 : Int32))), .val (.ref b23), .val (.int (1 : Int32))] [(.int (1 : Int32))])) _
      refine XS.goto X25.here hx rfl (pc0 := 118) (pc' := 122) rfl (hb hby at_118) (by decide) (by decide) ?_
      exact k
    obtain ⟨fs, hrq, hrun, hended, hW, hsame⟩ := X25.leave (v := some (.int (1 : Int32))) (fun h => by rw [Bd.returns] at h; cases h)
    refine ⟨_, _, pre26 _ ?_, hrun, hended, _, _, rfl, ?_, ⟨_, rfl⟩, hW, hsame.mono (by decide) (by decide)⟩
    · show Steps p.tables e below (T25.setTop (mkF m 122 #[.val (.long q0), .second, .val (.int p1), .val (.int p2), .val (.int p3), .val (.int bb), .val (.int (1 : Int32)), .val (.ref ar16), .val (.int (1 : Int32)), .val (.int ((1 : Int32) + ((5 : Int32) * bb))), .val (.int (if (0 : Int32) < (((1 : Int32) + ((5 : Int32) * bb)) + (dd - (4 : Int32))) then (((1 : Int32) + ((5 : Int32) * bb)) + (dd - (4 : Int32))) else (0 : Int32))), .val (.ref b23), .val (.int (1 : Int32))] [(.int (1 : Int32))])) _
      exact retN X25 hx (t := .boolean) Bd.returns (by simp) (hb hby at_122) hrq
    · show Q0 Z q0 p1 p2 p3 h0 n0 _ T25.heap _
      rw [e25]
      exact ⟨rfl, N25⟩
set_option maxRecDepth 65536 in
set_option maxHeartbeats 40000000 in
theorem comes_1 {Post : Tables → Env → Array Value → State → Outcome → State → Prop} (hpost : ∀ tb e args s v u, (limb_1_1.after args s (.returned v) u = true ∧ limb_1_2.after args s (.returned v) u = true ∧ True) → FrameEnd s (.returned v) u (Jvm.fieldLocs frame_1_writes args s ++ Jvm.arrayLocs frame_1_arrays args s ++ Jvm.staticLocs frame_1_statics s) 16 960 → Post tb e args s (.returned v) u) :
    ArmFor flags0 classFile x code maxLocals ret World_1 tables_1 room_1 Calls_1 rest_1 Pre_1 Post := by
  intro l hfl _ _ p e ha hc hk s m args below hf hA hF happ hP
  obtain ⟨hcalls, hrest, hpre⟩ := hP
  obtain ⟨-, -, -, hnamed, -, -, -, hat⟩ := (Spec.applies_iff hf).mp happ
  obtain ⟨hg, hn⟩ := and_e (Cond.before_iff.mp (show (Jvm.Cond.and given_1 narrow_1).before args s = true from hpre))
  obtain ⟨gc, g0⟩ := and_e hg
  obtain ⟨ga0, g1⟩ := and_e g0
  obtain ⟨ga1, g2⟩ := and_e g1
  obtain ⟨ga2, g3⟩ := and_e g2
  have ga3 := g3
  obtain ⟨w0, w1, w2, w3, rfl⟩ : ∃ w0 w1 w2 w3 : Value, args = #[w0, w1, w2, w3] := by
    have hs : args.size = 4 := by simpa [Cond.value, given_1] using gc
    obtain ⟨L⟩ := args
    match L, hs with
    | [w0, w1, w2, w3], _ => exact ⟨w0, w1, w2, w3, rfl⟩
  have hw := fun d (hd : d ∈ tables_1) => atoms_spec (ws := Jvm.Cond.code x code maxLocals ret :: tables_1) hat d (List.mem_cons_of_mem _ hd)
  have hfit : Fit s := fun {y c} hc i hi => by
    obtain ⟨ha, rfl⟩ := Array.getElem?_eq_some_iff.mp hc
    have q := List.all_eq_true.mp ((Array.all_eq_true_iff_forall_mem.mp hF) _ (Array.getElem_mem ha)) i (List.mem_range.mpr hi)
    simpa [Array.getElem?_eq_getElem hi] using q
  obtain ⟨i0, ei0⟩ := isL_v ga0
  obtain rfl : w0 = (.long i0) := Option.some.inj ei0
  obtain ⟨i1, ei1⟩ := is_v ga1
  obtain rfl : w1 = (.int i1) := Option.some.inj ei1
  obtain ⟨i2, ei2⟩ := is_v ga2
  obtain rfl : w2 = (.int i2) := Option.some.inj ei2
  obtain ⟨i3, ei3⟩ := is_v ga3
  obtain rfl : w3 = (.int i3) := Option.some.inj ei3
  have S := Sta.start (own_steq hn) (Or.inr ⟨(hw _ (List.mem_of_getElem? (i := 15) rfl)), (hw _ (List.mem_of_getElem? (i := 16) rfl))⟩)
  obtain ⟨n, o, h1, h2, h3, _, L, rfl, ⟨rfl, N⟩, hq⟩ := rm0 l s _ hw tables_1 i0 i1 i2 i3  s.heap s.heap.size (Nat.le_refl _) S p e ha hc hk s m _ below hf ((Spec.applies_iff_loose hf).mp happ).1 ⟨rfl, State.Warmed39.refl s, rfl⟩ trivial
  refine ⟨n, _, h1, h2, h3, hpost _ _ _ _ _ _ ⟨Cond.after_iff.mpr rfl, Cond.after_iff.mpr (eq_i res_at (Term.int_eval (1)) rfl), trivial⟩ ⟨hq.1, hq.2.1, (hq.2.2.sift fun y hy => Or.inr (N y hy)).mono (by decide) (by decide)⟩⟩
theorem main_1_1 : Claimed_1_1 := comes_1 fun _ _ _ _ _ _ h hF => ⟨h.1, hF⟩
theorem main_1_2 : Claimed_1_2 := comes_1 fun _ _ _ _ _ _ h hF => ⟨h.2.1, hF⟩
end Jvm.Pilot.@@N@@
namespace Jvm.Pilot.@@N@@
open Jvm Jvm.ClassFile Sem Op Lib Jvm.Free Jvm.Stand Jvm.Pilot.@@N@@.Jvm.D
/-! MADE BY PROGRAM (witnessworld.py) out of the Statement's table words and the real class files: 14 classes; the members and pool entries that the words name. The judged class is class 1, her method 1. -/
namespace start1
open Jvm.ClassFile
def u (s : String) : CpInfo := .utf8 (stringToUtf16 s)
/-- a pool by its gaps: so many unusable entries, then the entry; so many at the end -/
def gap : Nat → List CpInfo → List CpInfo
  | 0, r => r
  | n + 1, r => .unusable :: gap n r
def poolList (es : List (Nat × CpInfo)) (last : Nat) : List CpInfo := es.foldr (fun e r => gap e.1 (e.2 :: r)) (gap last [])
def pool (es : List (Nat × CpInfo)) (last : Nat) : Array CpInfo := ⟨poolList es last⟩
def fileOf (pool : Array CpInfo) (this : Nat) (attrs : Array Attribute := #[]) (ms : Array MethodInfo := #[]) (fl : Nat := 33) (sup : Nat := 0) (ifs : Array Nat := #[]) (fds : Array FieldInfo := #[]) : ClassFile where
  minorVersion := 0
  majorVersion := 65
  constantPool := pool
  accessFlags := fl
  thisClass := this
  superClass := sup
  interfaces := ifs
  fields := fds
  methods := ms
  attributes := attrs
def plain (name : String) (sup : Option ClassId) : Class where
  name := name
  kind := .ordinary
  loader := none
  accessFlags := 33
  super := sup
  interfaces := #[]
  cf := none
  fields := #[]
  methods := #[]
  instanceTypes := #[]
  staticTypes := #[]
  resolved := #[]
  callSites := []
  init := .initialized
  statics := none
  mirror := none

def pool0 : Array CpInfo := pool [(5, u "<init>"), (0, u "()V"), (1, .class_ 10), (1, u "java/lang/Object")] 113

def k0m0 : Method := { name := "<init>", desc := "()V", sig := { parameters := [], returnType := none }, accessFlags := 1, code := none }
/-- java/lang/Object -/
def k0 : Class := { plain "java/lang/Object" none with
  accessFlags := 33
  interfaces := #[]
  cf := some (fileOf pool0 8 #[] #[{ accessFlags := 1, nameIndex := 5, descriptorIndex := 6, attributes := #[] }] 33 0 #[] #[])
  fields := #[]
  methods := #[k0m0]
  instanceTypes := #[]
  staticTypes := #[]
  resolved := Array.replicate 124 none
  statics := none }

def pool1 : Array CpInfo := pool [(2, .class_ 4), (1, u "java/lang/Object"), (0, u "<init>"), (0, u "()V"), (0, .methodref 8 9), (0, .class_ 10), (0, .nameAndType 11 12), (0, u "com/example/libthrottle/libthrottle/stat/Span"), (0, u "make"), (0, u "(JIZ)[J"), (0, .methodref 8 14), (0, .nameAndType 15 16), (0, u "inRows"), (0, u "([JI)Z"), (0, .methodref 18 19), (0, .class_ 20), (0, .nameAndType 21 22), (0, u "java/lang/Math"), (0, u "max"), (0, u "(II)I"), (0, .class_ 24), (0, u "com/example/libthrottle/libthrottle/stat/SpanInRowsPinLaw"), (2, u "law"), (0, u "(JIII)Z")] 5

def k1m0 : Method := { name := "<init>", desc := "()V", sig := { parameters := [], returnType := none }, accessFlags := 1, code := none }
def k1c1 : Code := { maxStack := 4, maxLocals := 13, code := code, exceptionTable := #[], attributes := #[] }
def k1m1 : Method := { name := "law", desc := "(JIII)Z", sig := { parameters := [.long, .int, .int, .int], returnType := some .boolean }, accessFlags := 9, code := some k1c1 }
/-- com/example/libthrottle/libthrottle/stat/SpanInRowsPinLaw -/
def k1 : Class := { plain "com/example/libthrottle/libthrottle/stat/SpanInRowsPinLaw" (some 0) with
  accessFlags := 49
  interfaces := #[]
  cf := some (fileOf pool1 23 #[] #[{ accessFlags := 1, nameIndex := 5, descriptorIndex := 6, attributes := #[] }, { accessFlags := 9, nameIndex := 27, descriptorIndex := 28, attributes := #[] }] 49 2 #[] #[])
  fields := #[]
  methods := #[k1m0, k1m1]
  instanceTypes := #[]
  staticTypes := #[]
  resolved := Array.replicate 34 none
  statics := none }

def pool2 : Array CpInfo := pool [(4, .class_ 6), (1, u "java/lang/Object"), (0, u "<init>"), (0, u "()V"), (0, .methodref 10 11), (0, .class_ 12), (0, .nameAndType 13 14), (0, u "com/example/libthrottle/libthrottle/stat/Span"), (0, u "lead"), (0, u "(I)I"), (0, .methodref 10 16), (0, .nameAndType 17 14), (0, u "width"), (0, .methodref 19 20), (0, .class_ 21), (0, .nameAndType 22 23), (0, u "com/example/libthrottle/libthrottle/stat/Cells"), (0, u "inRows"), (0, u "(II)[J"), (2, u "([JI)Z"), (49, u "PASSED"), (0, u "I"), (2, u "REFUSED"), (1, u "COMPLETED"), (1, u "ERRORS"), (1, u "RESPONSE_NANOS"), (1, u "COUNTERS"), (1, u "CLOSED"), (0, u "J"), (0, u "FIRST"), (2, u "make"), (0, u "(JIZ)[J")] 9

def k2m0 : Method := { name := "<init>", desc := "()V", sig := { parameters := [], returnType := none }, accessFlags := 2, code := none }
def k2c1 : Code := { maxStack := 4, maxLocals := 5, code := prog_53_method_2_code, exceptionTable := #[], attributes := #[] }
def k2m1 : Method := { name := "make", desc := "(JIZ)[J", sig := { parameters := [.long, .int, .boolean], returnType := some (.array .long) }, accessFlags := 8, code := some k2c1 }
def k2c2 : Code := { maxStack := 3, maxLocals := 2, code := prog_53_method_4_code, exceptionTable := #[], attributes := #[] }
def k2m2 : Method := { name := "inRows", desc := "([JI)Z", sig := { parameters := [(.array .long), .int], returnType := some .boolean }, accessFlags := 8, code := some k2c2 }
def k2c3 : Code := { maxStack := 2, maxLocals := 1, code := prog_53_method_13_code, exceptionTable := #[], attributes := #[] }
def k2m3 : Method := { name := "lead", desc := "(I)I", sig := { parameters := [.int], returnType := some .int }, accessFlags := 10, code := some k2c3 }
def k2c4 : Code := { maxStack := 2, maxLocals := 1, code := prog_53_method_14_code, exceptionTable := #[], attributes := #[] }
def k2m4 : Method := { name := "width", desc := "(I)I", sig := { parameters := [.int], returnType := some .int }, accessFlags := 10, code := some k2c4 }
/-- com/example/libthrottle/libthrottle/stat/Span -/
def k2 : Class := { plain "com/example/libthrottle/libthrottle/stat/Span" (some 0) with
  accessFlags := 32
  interfaces := #[]
  cf := some (fileOf pool2 10 #[] #[{ accessFlags := 2, nameIndex := 7, descriptorIndex := 8, attributes := #[] }, { accessFlags := 8, nameIndex := 95, descriptorIndex := 96, attributes := #[] }, { accessFlags := 8, nameIndex := 22, descriptorIndex := 26, attributes := #[] }, { accessFlags := 10, nameIndex := 13, descriptorIndex := 14, attributes := #[] }, { accessFlags := 10, nameIndex := 17, descriptorIndex := 14, attributes := #[] }] 32 4 #[] #[{ accessFlags := 24, nameIndex := 76, descriptorIndex := 77, attributes := #[] }, { accessFlags := 24, nameIndex := 80, descriptorIndex := 77, attributes := #[] }, { accessFlags := 24, nameIndex := 82, descriptorIndex := 77, attributes := #[] }, { accessFlags := 24, nameIndex := 84, descriptorIndex := 77, attributes := #[] }, { accessFlags := 24, nameIndex := 86, descriptorIndex := 77, attributes := #[] }, { accessFlags := 24, nameIndex := 88, descriptorIndex := 77, attributes := #[] }, { accessFlags := 24, nameIndex := 90, descriptorIndex := 91, attributes := #[] }, { accessFlags := 26, nameIndex := 92, descriptorIndex := 77, attributes := #[] }])
  fields := #[{ name := "PASSED", type := .int, accessFlags := 24, slot := 0, constantValue := 0 }, { name := "REFUSED", type := .int, accessFlags := 24, slot := 1, constantValue := 0 }, { name := "COMPLETED", type := .int, accessFlags := 24, slot := 2, constantValue := 0 }, { name := "ERRORS", type := .int, accessFlags := 24, slot := 3, constantValue := 0 }, { name := "RESPONSE_NANOS", type := .int, accessFlags := 24, slot := 4, constantValue := 0 }, { name := "COUNTERS", type := .int, accessFlags := 24, slot := 5, constantValue := 0 }, { name := "CLOSED", type := .long, accessFlags := 24, slot := 6, constantValue := 0 }, { name := "FIRST", type := .int, accessFlags := 26, slot := 7, constantValue := 0 }]
  methods := #[k2m0, k2m1, k2m2, k2m3, k2m4]
  instanceTypes := #[]
  staticTypes := #[.int, .int, .int, .int, .int, .int, .long, .int]
  resolved := Array.replicate 106 none
  statics := none }

def pool3 : Array CpInfo := pool [(2, .class_ 4), (1, u "java/lang/Object"), (0, u "<init>"), (0, u "()V"), (0, .class_ 8), (0, u "com/example/libthrottle/libthrottle/stat/Cells"), (0, .fieldref 10 11), (0, .class_ 12), (0, .nameAndType 13 14), (0, u "com/example/libthrottle/libthrottle/stat/Probe"), (0, u "SLOTS"), (0, u "I"), (6, u "CELL"), (0, u "Ljava/lang/invoke/VarHandle;"), (51, u "PAD"), (4, u "inRows"), (0, u "(II)[J")] 16

def k3m0 : Method := { name := "<init>", desc := "()V", sig := { parameters := [], returnType := none }, accessFlags := 2, code := none }
def k3c1 : Code := { maxStack := 4, maxLocals := 2, code := prog_45_method_2_code, exceptionTable := #[], attributes := #[] }
def k3m1 : Method := { name := "inRows", desc := "(II)[J", sig := { parameters := [.int, .int], returnType := some (.array .long) }, accessFlags := 8, code := some k3c1 }
/-- com/example/libthrottle/libthrottle/stat/Cells -/
def k3 : Class := { plain "com/example/libthrottle/libthrottle/stat/Cells" (some 0) with
  accessFlags := 32
  interfaces := #[]
  cf := some (fileOf pool3 7 #[] #[{ accessFlags := 2, nameIndex := 5, descriptorIndex := 6, attributes := #[] }, { accessFlags := 8, nameIndex := 79, descriptorIndex := 80, attributes := #[] }] 32 2 #[] #[{ accessFlags := 26, nameIndex := 21, descriptorIndex := 22, attributes := #[] }, { accessFlags := 26, nameIndex := 74, descriptorIndex := 14, attributes := #[] }])
  fields := #[{ name := "CELL", type := (.object "java/lang/invoke/VarHandle"), accessFlags := 26, slot := 0, constantValue := 0 }, { name := "PAD", type := .int, accessFlags := 26, slot := 1, constantValue := 0 }]
  methods := #[k3m0, k3m1]
  instanceTypes := #[]
  staticTypes := #[(.object "java/lang/invoke/VarHandle"), .int]
  resolved := Array.replicate 97 none
  statics := none }

def pool4 : Array CpInfo := pool [(2, .class_ 4), (1, u "java/lang/Object"), (0, u "<init>"), (0, u "()V"), (1, .class_ 10), (1, u "com/example/libthrottle/libthrottle/stat/Probe"), (4, u "SLOTS"), (0, u "I"), (12, u "OF_THREAD"), (0, u "Ljava/lang/ThreadLocal;"), (10, u "NEXT"), (0, u "Ljava/util/concurrent/atomic/AtomicInteger;")] 42

def k4m0 : Method := { name := "<init>", desc := "()V", sig := { parameters := [], returnType := none }, accessFlags := 2, code := none }
/-- com/example/libthrottle/libthrottle/stat/Probe -/
def k4 : Class := { plain "com/example/libthrottle/libthrottle/stat/Probe" (some 0) with
  accessFlags := 32
  interfaces := #[]
  cf := some (fileOf pool4 8 #[] #[{ accessFlags := 2, nameIndex := 5, descriptorIndex := 6, attributes := #[] }] 32 2 #[] #[{ accessFlags := 24, nameIndex := 15, descriptorIndex := 16, attributes := #[] }, { accessFlags := 26, nameIndex := 41, descriptorIndex := 42, attributes := #[] }, { accessFlags := 26, nameIndex := 29, descriptorIndex := 30, attributes := #[] }])
  fields := #[{ name := "SLOTS", type := .int, accessFlags := 24, slot := 0, constantValue := 0 }, { name := "NEXT", type := (.object "java/util/concurrent/atomic/AtomicInteger"), accessFlags := 26, slot := 1, constantValue := 0 }, { name := "OF_THREAD", type := (.object "java/lang/ThreadLocal"), accessFlags := 26, slot := 2, constantValue := 0 }]
  methods := #[k4m0]
  instanceTypes := #[]
  staticTypes := #[.int, (.object "java/util/concurrent/atomic/AtomicInteger"), (.object "java/lang/ThreadLocal")]
  resolved := Array.replicate 85 none
  statics := some 0 }

def pool5 : Array CpInfo := pool [(1, .class_ 2), (0, u "java/lang/Math"), (1, .class_ 6), (1, u "java/lang/Object"), (0, u "<init>"), (0, u "()V"), (89, .class_ 100), (1, u "java/lang/Math$RandomNumberGeneratorHolder"), (71, u "negativeZeroFloatBits"), (0, u "J"), (2, u "negativeZeroDoubleBits"), (21, u "max"), (46, u "$assertionsDisabled"), (0, u "Z"), (88, u "(II)I"), (2, u "twoToTheDoubleScaleDown"), (0, u "D"), (4, u "twoToTheDoubleScaleUp"), (9, u "E"), (3, u "PI"), (2, u "TAU"), (2, u "DEGREES_TO_RADIANS"), (0, u "RADIANS_TO_DEGREES")] 94

def k5m0 : Method := { name := "<init>", desc := "()V", sig := { parameters := [], returnType := none }, accessFlags := 2, code := none }
def k5c1 : Code := { maxStack := 2, maxLocals := 2, code := jdk_29_method_65_code, exceptionTable := #[], attributes := #[] }
def k5m1 : Method := { name := "max", desc := "(II)I", sig := { parameters := [.int, .int], returnType := some .int }, accessFlags := 9, code := some k5c1 }
/-- java/lang/Math -/
def k5 : Class := { plain "java/lang/Math" (some 0) with
  accessFlags := 49
  interfaces := #[]
  cf := some (fileOf pool5 1 #[.nestMembers #[98]] #[{ accessFlags := 2, nameIndex := 7, descriptorIndex := 8, attributes := #[] }, { accessFlags := 9, nameIndex := 198, descriptorIndex := 335, attributes := #[] }] 49 4 #[] #[{ accessFlags := 25, nameIndex := 354, descriptorIndex := 339, attributes := #[] }, { accessFlags := 25, nameIndex := 358, descriptorIndex := 339, attributes := #[] }, { accessFlags := 25, nameIndex := 361, descriptorIndex := 339, attributes := #[] }, { accessFlags := 26, nameIndex := 364, descriptorIndex := 339, attributes := #[] }, { accessFlags := 26, nameIndex := 365, descriptorIndex := 339, attributes := #[] }, { accessFlags := 26, nameIndex := 172, descriptorIndex := 173, attributes := #[] }, { accessFlags := 26, nameIndex := 176, descriptorIndex := 173, attributes := #[] }, { accessFlags := 8, nameIndex := 344, descriptorIndex := 339, attributes := #[] }, { accessFlags := 8, nameIndex := 338, descriptorIndex := 339, attributes := #[] }, { accessFlags := 4120, nameIndex := 245, descriptorIndex := 246, attributes := #[] }])
  fields := #[{ name := "E", type := .double, accessFlags := 25, slot := 0, constantValue := 0 }, { name := "PI", type := .double, accessFlags := 25, slot := 1, constantValue := 0 }, { name := "TAU", type := .double, accessFlags := 25, slot := 2, constantValue := 0 }, { name := "DEGREES_TO_RADIANS", type := .double, accessFlags := 26, slot := 3, constantValue := 0 }, { name := "RADIANS_TO_DEGREES", type := .double, accessFlags := 26, slot := 4, constantValue := 0 }, { name := "negativeZeroFloatBits", type := .long, accessFlags := 26, slot := 5, constantValue := 0 }, { name := "negativeZeroDoubleBits", type := .long, accessFlags := 26, slot := 6, constantValue := 0 }, { name := "twoToTheDoubleScaleUp", type := .double, accessFlags := 8, slot := 7, constantValue := 0 }, { name := "twoToTheDoubleScaleDown", type := .double, accessFlags := 8, slot := 8, constantValue := 0 }, { name := "$assertionsDisabled", type := .boolean, accessFlags := 4120, slot := 9, constantValue := 0 }]
  methods := #[k5m0, k5m1]
  instanceTypes := #[]
  staticTypes := #[.double, .double, .double, .double, .double, .long, .long, .double, .double, .boolean]
  resolved := Array.replicate 460 none
  statics := none }

def pool6 : Array CpInfo := pool [(1, u "java/lang/Cloneable"), (0, .class_ 1), (0, u "java/lang/Object"), (0, .class_ 3)] 3

/-- java/lang/Cloneable -/
def k6 : Class := { plain "java/lang/Cloneable" (some 0) with
  accessFlags := 1537
  interfaces := #[]
  cf := some (fileOf pool6 2 #[] #[] 1537 4 #[] #[])
  fields := #[]
  methods := #[]
  instanceTypes := #[]
  staticTypes := #[]
  resolved := Array.replicate 8 none
  statics := none }

def pool7 : Array CpInfo := pool [(1, u "java/io/Serializable"), (0, .class_ 1), (0, u "java/lang/Object"), (0, .class_ 3)] 3

/-- java/io/Serializable -/
def k7 : Class := { plain "java/io/Serializable" (some 0) with
  accessFlags := 1537
  interfaces := #[]
  cf := some (fileOf pool7 2 #[] #[] 1537 4 #[] #[])
  fields := #[]
  methods := #[]
  instanceTypes := #[]
  staticTypes := #[]
  resolved := Array.replicate 8 none
  statics := none }

/-- the primitive byte -/
def k8 : Class := { plain "byte" none with kind := .primitive 'B', accessFlags := 0x411 }
/-- [B -/
def k9 : Class := { plain "[B" (some 0) with kind := .array 8 .byte, interfaces := #[6, 7], accessFlags := 1041 }

/-- the primitive int -/
def k10 : Class := { plain "int" none with kind := .primitive 'I', accessFlags := 0x411 }
/-- [I -/
def k11 : Class := { plain "[I" (some 0) with kind := .array 10 .int, interfaces := #[6, 7], accessFlags := 1041 }

/-- the primitive long -/
def k12 : Class := { plain "long" none with kind := .primitive 'J', accessFlags := 0x411 }
/-- [J -/
def k13 : Class := { plain "[J" (some 0) with kind := .array 12 .long, interfaces := #[6, 7], accessFlags := 1041 }

def heap : Heap := #[{ cls := 4, slots := #[.int 4, .null, .null], vm := .statics 4 }]
def classes : Array Class := #[k0, k1, k2, k3, k4, k5, k6, k7, k8, k9, k10, k11, k12, k13]
def interned : List (Array UInt16 × Addr) := []
def slotsUsed : Nat := 3
def theMethod : MethodId := ⟨1, 1⟩
def args0 : Array Value := #[.long 3, .int 4, .int 5, .int 6]
def aboutOver (below : List Frame) : State where
  vm := { classes := classes, interned := interned.toArray }
  heap := heap
  slotsUsed := slotsUsed
  threads := #[{ frames := .invoking theMethod args0 :: below }]
def below0 : List Frame := [.native { method := ⟨0, 0⟩, args := #[] }]
def about1 : State := aboutOver below0
def p0 : Program := .bare "" "" ""
def e0 : Env := launch0.env 0 0 0
theorem w_frames : about1.frames = Frame.invoking theMethod args0 :: below0 := rfl
set_option maxRecDepth 65536 in
theorem w_args : argsFit about1.vm theMethod args0 = true := by decide +kernel
set_option maxRecDepth 65536 in
theorem w_heap : heapFits about1 = true := by decide +kernel
set_option maxRecDepth 65536 in
theorem w_runnable : about1.curStatus? = some .runnable := by decide +kernel
set_option maxRecDepth 65536 in
theorem w_alone : about1.alone = true := by decide +kernel
set_option maxRecDepth 65536 in
theorem w_named : about1.methodNamed? x = some theMethod := by decide +kernel
set_option maxRecDepth 65536 in
theorem w_hears : about1.hears theMethod below0 = true := by decide +kernel
set_option maxRecDepth 65536 in
theorem w_ripe : about1.ripe theMethod args0 below0 = true := by decide +kernel
theorem w_running : about1.status = .running := rfl
set_option maxRecDepth 65536 in
theorem w_room : about1.hasRoom e0.platform room_1 = true :=
  launch0.hasRoom_least _ room_1 (by decide +kernel) (by decide +kernel) (by decide +kernel) (by decide +kernel) (by decide +kernel) (by decide +kernel)
theorem allAtoms_all (ts : List Jvm.Cond) (a : Array Jvm.Value) (st : Jvm.State) : (allAtoms ts).before a st = ts.all (fun c => c.before a st) := by
  induction ts with
  | nil => rfl
  | cons c t ih =>
    show (Jvm.Cond.and c (allAtoms t)).before a st = _
    rw [Jvm.Cond.before_and, ih, List.all_cons]
def words1 : List Jvm.Cond := Jvm.Cond.code x code maxLocals ret :: tables_1
/-- a 'code' word, met by the world's own term for the bytes: nothing is compared byte by byte -/
theorem code_word {y : MethodName} {bytes : ByteArray} {mx : Nat} {rt : Option FieldType} {a : Array Value} {s : State} {m : MethodId} {meth : Method} {c : Code} (h1 : s.methodNamed? y = some m) (h2 : s.vm.method? m = some meth) (h3 : meth.code = some c) (h4 : c.code = bytes)
    (h5 : (c.maxLocals == mx && c.exceptionTable.isEmpty && decide (c.maxStack ≤ mostOperands) && decide (meth.sig.returnType = rt) && !meth.locks && decide (parseMethodDescriptor y.desc = some meth.sig)) = true) : (Jvm.Cond.code y bytes mx rt).before a s = true := by
  simp only [Bool.and_eq_true, beq_iff_eq, Bool.not_eq_true', decide_eq_true_eq] at h5
  obtain ⟨⟨⟨⟨⟨g1, g2⟩, g3⟩, g4⟩, g5⟩, g6⟩ := h5
  simp [Cond.before, Cond.holds, Cond.value, h1, h2, h3, h4, g1, g2, g3, g4, g5, g6]
def isCode : Jvm.Cond → Bool
  | .code _ _ _ _ => true
  | _ => false
theorem all_split {L : List Jvm.Cond} {P : Jvm.Cond → Bool} (h1 : L.all (fun c => isCode c || P c) = true) (h2 : ∀ c ∈ L.filter isCode, P c = true) : L.all P = true := by
  refine List.all_eq_true.mpr fun c hc => ?_
  have h := List.all_eq_true.mp h1 c hc
  rcases Bool.eq_false_or_eq_true (isCode c) with hi | hi
  · exact h2 c (List.mem_filter.mpr ⟨hc, hi⟩)
  · simpa [hi] using h
set_option maxRecDepth 65536 in
theorem w_c0 : (Jvm.Cond.code x code maxLocals ret).before args0 about1 = true := code_word (m := ⟨1, 1⟩) (meth := k1m1) (c := k1c1) (by decide +kernel) rfl rfl rfl (by decide +kernel)
set_option maxRecDepth 65536 in
theorem w_c1 : (Jvm.Cond.code ({ cls := "com/example/libthrottle/libthrottle/stat/Span", name := "make", desc := "(JIZ)[J" } : Jvm.MethodName) prog_53_method_2_code (5 : Nat) (Option.some (Jvm.ClassFile.FieldType.array Jvm.ClassFile.FieldType.long))).before args0 about1 = true := code_word (m := ⟨2, 1⟩) (meth := k2m1) (c := k2c1) (by decide +kernel) rfl rfl rfl (by decide +kernel)
set_option maxRecDepth 65536 in
theorem w_c2 : (Jvm.Cond.code ({ cls := "com/example/libthrottle/libthrottle/stat/Span", name := "lead", desc := "(I)I" } : Jvm.MethodName) prog_53_method_13_code (1 : Nat) (Option.some Jvm.ClassFile.FieldType.int)).before args0 about1 = true := code_word (m := ⟨2, 3⟩) (meth := k2m3) (c := k2c3) (by decide +kernel) rfl rfl rfl (by decide +kernel)
set_option maxRecDepth 65536 in
theorem w_c3 : (Jvm.Cond.code ({ cls := "com/example/libthrottle/libthrottle/stat/Span", name := "width", desc := "(I)I" } : Jvm.MethodName) prog_53_method_14_code (1 : Nat) (Option.some Jvm.ClassFile.FieldType.int)).before args0 about1 = true := code_word (m := ⟨2, 4⟩) (meth := k2m4) (c := k2c4) (by decide +kernel) rfl rfl rfl (by decide +kernel)
set_option maxRecDepth 65536 in
theorem w_c4 : (Jvm.Cond.code ({ cls := "com/example/libthrottle/libthrottle/stat/Cells", name := "inRows", desc := "(II)[J" } : Jvm.MethodName) prog_45_method_2_code (2 : Nat) (Option.some (Jvm.ClassFile.FieldType.array Jvm.ClassFile.FieldType.long))).before args0 about1 = true := code_word (m := ⟨3, 1⟩) (meth := k3m1) (c := k3c1) (by decide +kernel) rfl rfl rfl (by decide +kernel)
set_option maxRecDepth 65536 in
theorem w_c5 : (Jvm.Cond.code ({ cls := "com/example/libthrottle/libthrottle/stat/Span", name := "inRows", desc := "([JI)Z" } : Jvm.MethodName) prog_53_method_4_code (2 : Nat) (Option.some Jvm.ClassFile.FieldType.boolean)).before args0 about1 = true := code_word (m := ⟨2, 2⟩) (meth := k2m2) (c := k2c2) (by decide +kernel) rfl rfl rfl (by decide +kernel)
set_option maxRecDepth 65536 in
theorem w_c6 : (Jvm.Cond.code ({ cls := "java/lang/Math", name := "max", desc := "(II)I" } : Jvm.MethodName) jdk_29_method_65_code (2 : Nat) (Option.some Jvm.ClassFile.FieldType.int)).before args0 about1 = true := code_word (m := ⟨5, 1⟩) (meth := k5m1) (c := k5c1) (by decide +kernel) rfl rfl rfl (by decide +kernel)
def codes1 : List Jvm.Cond := [Jvm.Cond.code x code maxLocals ret, Jvm.Cond.code ({ cls := "com/example/libthrottle/libthrottle/stat/Span", name := "make", desc := "(JIZ)[J" } : Jvm.MethodName) prog_53_method_2_code (5 : Nat) (Option.some (Jvm.ClassFile.FieldType.array Jvm.ClassFile.FieldType.long)), Jvm.Cond.code ({ cls := "com/example/libthrottle/libthrottle/stat/Span", name := "lead", desc := "(I)I" } : Jvm.MethodName) prog_53_method_13_code (1 : Nat) (Option.some Jvm.ClassFile.FieldType.int), Jvm.Cond.code ({ cls := "com/example/libthrottle/libthrottle/stat/Span", name := "width", desc := "(I)I" } : Jvm.MethodName) prog_53_method_14_code (1 : Nat) (Option.some Jvm.ClassFile.FieldType.int), Jvm.Cond.code ({ cls := "com/example/libthrottle/libthrottle/stat/Cells", name := "inRows", desc := "(II)[J" } : Jvm.MethodName) prog_45_method_2_code (2 : Nat) (Option.some (Jvm.ClassFile.FieldType.array Jvm.ClassFile.FieldType.long)), Jvm.Cond.code ({ cls := "com/example/libthrottle/libthrottle/stat/Span", name := "inRows", desc := "([JI)Z" } : Jvm.MethodName) prog_53_method_4_code (2 : Nat) (Option.some Jvm.ClassFile.FieldType.boolean), Jvm.Cond.code ({ cls := "java/lang/Math", name := "max", desc := "(II)I" } : Jvm.MethodName) jdk_29_method_65_code (2 : Nat) (Option.some Jvm.ClassFile.FieldType.int)]
set_option maxRecDepth 65536 in
theorem codes_eq : words1.filter isCode = codes1 := rfl
theorem w_codes : ∀ c ∈ words1.filter isCode, c.before args0 about1 = true := by
  rw [codes_eq]
  intro c hc
  simp only [codes1, List.mem_cons, List.not_mem_nil, or_false] at hc
  rcases hc with rfl | rfl | rfl | rfl | rfl | rfl | rfl
  · exact w_c0
  · exact w_c1
  · exact w_c2
  · exact w_c3
  · exact w_c4
  · exact w_c5
  · exact w_c6
set_option maxRecDepth 65536 in
theorem w_t1 : (words1.take 24).all (fun c => isCode c || c.before args0 about1) = true := by decide +kernel
set_option maxRecDepth 65536 in
theorem w_t2 : (words1.drop 24).all (fun c => isCode c || c.before args0 about1) = true := by decide +kernel
theorem w_tables : (allAtoms (Jvm.Cond.code x code maxLocals ret :: tables_1)).before args0 about1 = true := by
  rw [allAtoms_all]
  show words1.all (fun c => c.before args0 about1) = true
  refine all_split ?_ w_codes
  rw [← List.take_append_drop 24 words1, List.all_append, w_t1, w_t2]
  rfl
set_option maxRecDepth 65536 in
theorem w_case : (Jvm.Cond.and given_1 narrow_1).before args0 about1 = true := by decide +kernel
theorem w_applies : (headSpec (Jvm.Cond.code x code maxLocals ret :: tables_1) room_1).applies x e0.platform about1 = true :=
  (Spec.applies_iff w_frames).mpr ⟨w_running, w_runnable, w_alone, w_named, w_hears, w_ripe, w_room, w_tables⟩
theorem atStart : AtStart classFile x code maxLocals ret World_1 tables_1 room_1 Calls_1 rest_1 Pre_1 launch0 p0 e0 about1 theMethod args0 below0 :=
  ⟨lists_1, trivial, launch0.admits_env _ _ _, launch0.least_env, fairChoices_fair.cas, fairChoices_fair.clock, w_frames, w_args, w_heap, w_applies, trivial, trivial, w_case⟩
end start1
theorem witness_1 : WitnessClaimed_1 := ⟨start1.p0, start1.e0, start1.about1, start1.theMethod, start1.args0, start1.below0, start1.atStart⟩
end Jvm.Pilot.@@N@@
