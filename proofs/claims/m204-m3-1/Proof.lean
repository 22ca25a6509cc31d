import JvmDerived
import JvmDerived.Pilot.@@N@@Statement
import JvmDerived.Pilot.@@N@@Code
set_option linter.unusedVariables false
set_option linter.unusedSimpArgs false
namespace Jvm.RoadKit
open Sem ClassFile Op Lib Jvm.Stand Jvm.Free Jvm.LawKit
section New
variable {p : Program} {l : Launch} {e : Env} {R : Room} {s : State} {m : MethodId} {args : Array Value} {below : List Frame} {meth : Method} {c : Code} {T : State} {locs : List Loc} {cells slots : Nat}
theorem retI (X : Stand p l e R s m args below meth c T locs cells slots) (hx : p.tables.exec = Jvm.exec) {pc : Nat} {Ls : Array Slot} {z : Int32} {rest : List Value} (hret : meth.sig.returnType = some .int) (hd : decode c.code pc = .ok (.ireturn, 1)) {fs : List Frame}
    (hl : ∀ (f : JFrame) (acts : List Action), f.method = m → f.locked = none → f.entered = [] → (doReturn e (T.setTop f) acts (some (.int z))).1 = T.setFrames fs) : Steps p.tables e below (T.setTop (mkF m pc Ls (.int z :: rest))) (T.setFrames fs) := by
  have hm' : T.vm.method? m = some meth := X.method'
  have hn : narrow .int (.int z) = .int z := rfl
  show Steps p.tables e below (T.setTop { method := m, pc := pc, locals := Ls, stack := _ :: rest, locked := none }) _
  jvm_step X.here [X.here.top, hx, hd, hm', hret, hn]
  first | (intro acts; rw [hl _ acts rfl rfl rfl]) | rw [hl _ _ rfl rfl rfl]
  exact Steps.refl _
theorem own_retN (X : Stand p l e R s m args below meth c T locs cells slots) (hx : p.tables.exec = Jvm.exec) {pc : Nat} {Ls : Array Slot} {z z' : Int32} {t : FieldType} {rest : List Value} (hret : meth.sig.returnType = some t) (ht : t = .boolean ∨ t = .byte ∨ t = .char ∨ t = .short)
    (hd : decode c.code pc = .ok (.ireturn, 1)) (hz : nar t z = z') {fs : List Frame} (hl : ∀ (f : JFrame) (acts : List Action), f.method = m → f.locked = none → f.entered = [] → (doReturn e (T.setTop f) acts (some (.int z'))).1 = T.setFrames fs) :
    Steps p.tables e below (T.setTop (mkF m pc Ls (.int z :: rest))) (T.setFrames fs) := by
  subst hz; exact retN X hx hret ht hd hl
end New
theorem own_nar_if {P : Prop} [Decidable P] {a b : Int32} (ha : nar .boolean a = a) (hb : nar .boolean b = b) : nar .boolean (if P then a else b) = if P then a else b := by
  split
  · exact ha
  · exact hb
theorem own_b_lt (x y : Int32) : (if if_icmp.holds .lt x y = true then (0 : Int32) else 1) = if x < y then 0 else 1 := by
  by_cases h : x < y
  · rw [(tlt h).1]; simp [h]
  · rw [(flt h).1]; simp [h]
theorem own_b_ge (x y : Int32) : (if if_icmp.holds .ge x y = true then (0 : Int32) else 1) = if x < y then 1 else 0 := by
  by_cases h : x < y
  · rw [(tlt h).2.1]; simp [h]
  · rw [(flt h).2.1]; simp [h]
theorem own_b_gt (x y : Int32) : (if if_icmp.holds .gt x y = true then (0 : Int32) else 1) = if y < x then 0 else 1 := by
  by_cases h : y < x
  · rw [(tlt h).2.2.1]; simp [h]
  · rw [(flt h).2.2.1]; simp [h]
theorem own_b_le (x y : Int32) : (if if_icmp.holds .le x y = true then (0 : Int32) else 1) = if y < x then 1 else 0 := by
  by_cases h : y < x
  · rw [(tlt h).2.2.2]; simp [h]
  · rw [(flt h).2.2.2]; simp [h]
theorem own_b_eq (x y : Int32) : (if if_icmp.holds .eq x y = true then (0 : Int32) else 1) = if x = y then 0 else 1 := by
  by_cases h : x = y
  · rw [(teq h).1]; simp [h]
  · rw [(feq h).1]; simp [h]
theorem own_b_ne (x y : Int32) : (if if_icmp.holds .ne x y = true then (0 : Int32) else 1) = if x = y then 1 else 0 := by
  by_cases h : x = y
  · rw [(teq h).2]; simp [h]
  · rw [(feq h).2]; simp [h]
theorem own_boolC {tb : Tables} [Ours tb] {e : Env} {below : List Frame} {T target : State} {m : MethodId} {c : Code} {g : JFrame} (h : At T m c below) (hx : tb.exec = Jvm.exec) (hg : g.method = m) {cd : ClassFile.Cond} {x y z : Int32} {rest : List Value}
    (hd0 : decode c.code g.pc = .ok (.if_icmp cd 7, 3)) (hd1 : decode c.code (g.pc + 3) = .ok (.iconst 1, 1)) (hd2 : decode c.code (g.pc + 4) = .ok (.goto 4, 3)) (hd3 : decode c.code (g.pc + 7) = .ok (.iconst 0, 1)) (hs : g.stack = .int y :: .int x :: rest)
    (hz : (if if_icmp.holds cd x y = true then (0 : Int32) else 1) = z) (hr : Steps tb e below (T.setTop { g with pc := g.pc + 8, stack := .int z :: rest }) target) : Steps tb e below (T.setTop g) target := by
  by_cases hc : if_icmp.holds cd x y = true
  · rw [if_pos hc] at hz; subst hz
    exact XS.icmpYes h hx hg (pc0 := g.pc) (pc' := g.pc + 7) rfl hd0 hs hc (by omega) (by omega) (XS.iconst h hx hg hd3 hr)
  · rw [if_neg hc] at hz; subst hz
    exact XS.icmpNo h hx hg hd0 hs (by simpa using hc) (XS.iconst h hx hg hd1 (XS.goto h hx hg (pc0 := g.pc + 4) (pc' := g.pc + 8) rfl hd2 (by omega) (by omega) hr))
theorem own_boolI {tb : Tables} [Ours tb] {e : Env} {below : List Frame} {T target : State} {m : MethodId} {c : Code} {g : JFrame} (h : At T m c below) (hx : tb.exec = Jvm.exec) (hg : g.method = m) {cd : ClassFile.Cond} {x z : Int32} {rest : List Value}
    (hd0 : decode c.code g.pc = .ok (.ifCond cd 7, 3)) (hd1 : decode c.code (g.pc + 3) = .ok (.iconst 1, 1)) (hd2 : decode c.code (g.pc + 4) = .ok (.goto 4, 3)) (hd3 : decode c.code (g.pc + 7) = .ok (.iconst 0, 1)) (hs : g.stack = .int x :: rest)
    (hz : (if if_icmp.holds cd x 0 = true then (0 : Int32) else 1) = z) (hr : Steps tb e below (T.setTop { g with pc := g.pc + 8, stack := .int z :: rest }) target) : Steps tb e below (T.setTop g) target := by
  by_cases hc : if_icmp.holds cd x 0 = true
  · rw [if_pos hc] at hz; subst hz
    exact XS.ifYes h hx hg (pc0 := g.pc) (pc' := g.pc + 7) rfl hd0 hs ((if0 _ _).trans hc) (by omega) (by omega) (XS.iconst h hx hg hd3 hr)
  · rw [if_neg hc] at hz; subst hz
    exact XS.ifNo h hx hg hd0 hs ((if0 _ _).trans (by simpa using hc)) (XS.iconst h hx hg hd1 (XS.goto h hx hg (pc0 := g.pc + 4) (pc' := g.pc + 8) rfl hd2 (by omega) (by omega) hr))
theorem own_selects_private {y : MethodName} {s : State} {args : Array Value} {n : Nat} (hins : (Cond.instantiable y.cls n).before args s = true) (hpriv : (Cond.privateMethod y).before args s = true) (hinst : (Cond.instanceMethod y).before args s = true) (hy : y.cls ≠ "java/lang/invoke/MethodHandle" ∧ y.cls ≠ "java/lang/invoke/VarHandle" := by decide) :
    (Cond.selects y.cls y y).before args s = true := by
  obtain ⟨c, k, hc, hk, -, hniab, -, -⟩ := Cond.instantiable_spec hins
  have hni : k.isInterface = false := (Bool.or_eq_false_iff.mp hniab).1
  obtain ⟨mk, methM, hnamed, hmethM, -, -⟩ := Cond.instanceMethod_spec hinst
  have hfound : s.methodFound? y.cls y.name y.desc = some mk := State.methodFound?_of_named hnamed hy
  have hcls : mk.cls = c := Option.some.inj ((findClass_of_methodNamed hnamed).symm.trans hc)
  have hsel : selectMethod {} s.vm c mk = .method mk := selectMethod_private hmethM (Cond.privateMethod_at hpriv mk methM hnamed hmethM)
  simp only [Cond.before, Cond.holds, Cond.value, hc, hfound, hnamed, hsel, hcls, hk]
  simp; exact hni
theorem own_sta_keep {Z : State} {h h' : Heap} {C n d : String} {v : Value} {ws : List Addr} (F : Sta Z h C n d v) (K : Keep h h' ws) (q : ∀ x ∈ ws, ∀ cell : Cell, h[x]? = some cell → cell.vm.isStatics = false) : Sta Z h' C n d v := by
  obtain ⟨cf, i, k, f, st, cell, h1, h2, h3, h4, h5, h6, h7⟩ := F
  refine ⟨cf, i, k, f, st, cell, h1, h2, h3, h4, K.2.1 _ _ h5 (fun hm => ?_), h6, h7⟩
  rw [q _ hm _ h5] at h6; cases h6
theorem own_plain_exa {Z : State} {h : Heap} {a : Addr} {C : String} (F : Exa Z h a C) : ∀ cell : Cell, h[a]? = some cell → cell.vm.isStatics = false := fun cell hc => by
  obtain ⟨c, k, h1, -, -, h4, -⟩ := F
  cases h1.symm.trans hc; exact h4
end Jvm.RoadKit
namespace Jvm.Pilot.@@N@@
open Jvm Jvm.ClassFile Sem Op Lib Jvm.Free Jvm.Stand Jvm.LawKit Jvm.RoadKit Bundle Jvm.Pilot.@@N@@.Jvm.D
theorem own_c255 (x : Int32) : ¬ ((255 : Int32) < ((x &&& (255 : Int32)).toUInt32.toUInt16.toUInt32.toInt32)) := by
  have h1 := c_and x (255 : Int32) (by decide)
  have h2 := c_i2c (x &&& (255 : Int32))
  rw [Int32.lt_iff_toInt_lt]
  have e1 : (255 : Int32).toInt = 255 := by decide
  omega
theorem own_csne {args : Array Value} {s : State} {t : Term} {c : Int32} (ht : t.eval args s none [] s = some (.int c)) (h : (Cond.not (Cond.eq t (Term.int 0))).value args s none s [] = some true) : ¬ (c = (0 : Int32)) := by
  intro e
  have h2 : (Term.int 0).eval args s none [] s = some (.int 0) := Term.int_eval 0
  have h3 := not_v h
  simp [Cond.value, ht, h2, e] at h3
theorem d2_0 : decode prog_88_method_2_code 0 = .ok (.aload_n 0, 1) := by decide +kernel
theorem d2_1 : decode prog_88_method_2_code 1 = .ok (.invokespecial 7, 3) := by decide +kernel
theorem d2_4 : decode prog_88_method_2_code 4 = .ok (.aload_n 0, 1) := by decide +kernel
theorem d2_5 : decode prog_88_method_2_code 5 = .ok (.iload_n 1, 1) := by decide +kernel
theorem d2_6 : decode prog_88_method_2_code 6 = .ok (.putfield 12, 3) := by decide +kernel
theorem d2_9 : decode prog_88_method_2_code 9 = .ok (.aload_n 0, 1) := by decide +kernel
theorem d2_10 : decode prog_88_method_2_code 10 = .ok (.iload_n 2, 1) := by decide +kernel
theorem d2_11 : decode prog_88_method_2_code 11 = .ok (.putfield 16, 3) := by decide +kernel
theorem d2_14 : decode prog_88_method_2_code 14 = .ok (.aload_n 0, 1) := by decide +kernel
theorem d2_15 : decode prog_88_method_2_code 15 = .ok (.aload_n 3, 1) := by decide +kernel
theorem d2_16 : decode prog_88_method_2_code 16 = .ok (.putfield 19, 3) := by decide +kernel
theorem d2_19 : decode prog_88_method_2_code 19 = .ok (.return_, 1) := by decide +kernel
theorem ef_rmP2 (m : MethodId) (x0 : Addr) (x1 : Int32) (x2 : Int32) : entryFrame m #[(.ref x0), (.int x1), (.int x2), .null] 4 = mkF m 0 #[.val (.ref x0), .val (.int x1), .val (.int x2), .val .null] [] := by first | (simp [entryFrame, mkF, argsToLocals, Value.category]; done) | rfl
theorem pn_0 : plainName "com/example/semijoin/semijoin/query/Position" = true := by first | (simp [plainName, overriddenIn]; done) | decide +kernel
def QP2 (Z : State) (ob : Addr) (p1 : Int32) (p2 : Int32) (h0 : Heap) (n0 : Nat) (v : Option Value) (h : Heap) (L : List Loc) : Prop := v = none ∧ Fr n0 L ∧ Keep h0 h [ob]
set_option maxRecDepth 65536 in
set_option maxHeartbeats 40000000 in
theorem rmP2 (l : Launch) (Z : State) (a0 : Array Value) (hw : ∀ d ∈ tables_1, d.before a0 Z = true) (ws : List Jvm.Cond) (ob : Addr) (p1 : Int32) (p2 : Int32) (h0 : Heap) (n0 : Nat) (Z0 : n0 ≤ h0.size) (E_ob : Exa Z h0 ob "com/example/semijoin/semijoin/query/Position") (F_line : Fld Z h0 ob "com/example/semijoin/semijoin/query/Position" "line" "I" (.int (0 : Int32))) (F_column : Fld Z h0 ob "com/example/semijoin/semijoin/query/Position" "column" "I" (.int (0 : Int32))) (F_source : Fld Z h0 ob "com/example/semijoin/semijoin/query/Position" "source" "Ljava/lang/String;" .null) (g_ob : n0 ≤ ob) :
    MetFree l (⟨"com/example/semijoin/semijoin/query/Position", "<init>", "(IILjava/lang/String;)V"⟩ : MethodName) (head1 (Jvm.Cond.code (⟨"com/example/semijoin/semijoin/query/Position", "<init>", "(IILjava/lang/String;)V"⟩ : MethodName) prog_88_method_2_code 4 none :: ws) ({ frames := 1, cells := 0, slots := 0, locals := 12 } : Room)) (fun a U => a = #[(.ref ob), (.int p1), (.int p2), .null] ∧ Z.Warmed39 U.vm ∧ U.heap = h0) (fun _ _ _ _ _ => True) (fun _ U o U' => ∃ v L, o = .returned v ∧ QP2 Z ob p1 p2 h0 n0 v U'.heap L ∧ FrameEnd U o U' L ({ frames := 1, cells := 0, slots := 0, locals := 12 } : Room).cells ({ frames := 1, cells := 0, slots := 0, locals := 12 } : Room).slots) := by
  refine MetFree.of_bodySF (plainFor_of_name pn_0) hisR ?_
  intro p e s0 m args below meth c s₁ Bd hml0 hP hK
  obtain ⟨rfl, hZ, hh⟩ := hP
  have hx := Bd.exec
  have hby := Bd.bytes
  have hml : c.maxLocals = 4 := hml0
  have hown : s0.vm.findClass "com/example/semijoin/semijoin/query/Position" = some m.cls := findClass_of_methodNamed Bd.named
  have hnm := (name_of_methodNamed Bd.named Bd.method).1
  have X0 : Stand p l e ({ frames := 1, cells := 0, slots := 0, locals := 12 } : Room) s0 m #[(.ref ob), (.int p1), (.int p2), .null] below meth c s₁ [] 0 0 := Stand.of_body Bd
  have e0 : s₁.heap = h0 := by rw [← hh, Bd.state]; rfl
  have N0 := Fr.nil n0
  have pre0 : ∀ t, Steps p.tables e below (s₁.setTop (mkF m 0 #[.val (.ref ob), .val (.int p1), .val (.int p2), .val .null] [])) t → Steps p.tables e below (s₁.setTop (entryFrame m #[(.ref ob), (.int p1), (.int p2), .null] 4)) t := fun t k => castTop (ef_rmP2 m ob p1 p2) k
  obtain ⟨T1, X1, e1, st1⟩ := initO X0 hx hZ hown (hw _ (List.mem_of_getElem? (i := 9) rfl)) (hw _ (List.mem_of_getElem? (i := 10) rfl)) (hw _ (List.mem_of_getElem? (i := 11) rfl)) e0 (g := (mkF m 1 #[.val (.ref ob), .val (.int p1), .val (.int p2), .val .null] [(.ref ob)])) rfl (by rw [hml]; rfl) rfl (hb hby d2_1) (by decide) (W := 0) (by show 2 * 0 + _ ≤ _; exact Nat.le_of_eq rfl) (by decide)
  obtain ⟨T2, h2, X2, e2, W2, st2⟩ := putF X1 hx hZ hown (host := "") (Or.inl (hw _ (List.mem_of_getElem? (i := 12) rfl))) Via.refl e1 F_line E_ob (Or.inr ⟨(hw _ (List.mem_of_getElem? (i := 13) rfl)), rfl, hnm⟩) (hw _ (List.mem_of_getElem? (i := 1) rfl)) (ty := .int) (by decide) rfl rfl (g := (mkF m 6 #[.val (.ref ob), .val (.int p1), .val (.int p2), .val .null] [(.int p1), (.ref ob)])) rfl rfl (hb hby d2_6)
  have Fw2 : Fld Z h2 ob "com/example/semijoin/semijoin/query/Position" "line" "I" (.int p1) := F_line.same W2
  have Z3 : n0 ≤ h2.size := Nat.le_trans Z0 (Keep.of_wr W2).1
  have K2 : Keep h0 h2 [ob] := (Keep.refl h0 [ob]).wr W2 (Or.inl (List.mem_of_getElem? (i := 0) rfl))
  have N2 := Fr.snoc X2 N0 g_ob
  have c4 : Exa Z h2 ob "com/example/semijoin/semijoin/query/Position" := (E_ob.wr W2)
  have c5 : Fld Z h2 ob "com/example/semijoin/semijoin/query/Position" "column" "I" (.int (0 : Int32)) := (F_column.other W2 (Or.inr (slot_ne (a0 := a0) (Or.inr (hw _ (List.mem_of_getElem? (i := 15) rfl))) (Or.inr (hw _ (List.mem_of_getElem? (i := 13) rfl))) (by decide) (t := .int) (t' := .int) (by decide) (by decide))))
  obtain ⟨T6, h6, X6, e6, W6, st6⟩ := putF X2 hx hZ hown (host := "") (Or.inl (hw _ (List.mem_of_getElem? (i := 14) rfl))) Via.refl e2 c5 c4 (Or.inr ⟨(hw _ (List.mem_of_getElem? (i := 15) rfl)), rfl, hnm⟩) (hw _ (List.mem_of_getElem? (i := 1) rfl)) (ty := .int) (by decide) rfl rfl (g := (mkF m 11 #[.val (.ref ob), .val (.int p1), .val (.int p2), .val .null] [(.int p2), (.ref ob)])) rfl rfl (hb hby d2_11)
  have Fw6 : Fld Z h6 ob "com/example/semijoin/semijoin/query/Position" "column" "I" (.int p2) := c5.same W6
  have Z7 : n0 ≤ h6.size := Nat.le_trans Z3 (Keep.of_wr W6).1
  have K6 : Keep h0 h6 [ob] := K2.wr W6 (Or.inl (List.mem_of_getElem? (i := 0) rfl))
  have N6 := Fr.snoc X6 N2 g_ob
  have c8 : Exa Z h6 ob "com/example/semijoin/semijoin/query/Position" := (c4.wr W6)
  have c9 : Fld Z h6 ob "com/example/semijoin/semijoin/query/Position" "source" "Ljava/lang/String;" .null := ((F_source.other W2 (Or.inr (slot_ne (a0 := a0) (Or.inr (hw _ (List.mem_of_getElem? (i := 17) rfl))) (Or.inr (hw _ (List.mem_of_getElem? (i := 13) rfl))) (by decide) (t := (.object "java/lang/String")) (t' := .int) (by decide) (by decide)))).other W6 (Or.inr (slot_ne (a0 := a0) (Or.inr (hw _ (List.mem_of_getElem? (i := 17) rfl))) (Or.inr (hw _ (List.mem_of_getElem? (i := 15) rfl))) (by decide) (t := (.object "java/lang/String")) (t' := .int) (by decide) (by decide))))
  obtain ⟨T10, h10, X10, e10, W10, st10⟩ := putF X6 hx hZ hown (host := "") (Or.inl (hw _ (List.mem_of_getElem? (i := 16) rfl))) Via.refl e6 c9 c8 (Or.inr ⟨(hw _ (List.mem_of_getElem? (i := 17) rfl)), rfl, hnm⟩) (hw _ (List.mem_of_getElem? (i := 1) rfl)) (ty := (.object "java/lang/String")) (by decide) rfl rfl (g := (mkF m 16 #[.val (.ref ob), .val (.int p1), .val (.int p2), .val .null] [.null, (.ref ob)])) rfl rfl (hb hby d2_16)
  have Fw10 : Fld Z h10 ob "com/example/semijoin/semijoin/query/Position" "source" "Ljava/lang/String;" .null := c9.same W10
  have Z11 : n0 ≤ h10.size := Nat.le_trans Z7 (Keep.of_wr W10).1
  have K10 : Keep h0 h10 [ob] := K6.wr W10 (Or.inl (List.mem_of_getElem? (i := 0) rfl))
  have N10 := Fr.snoc X10 N6 g_ob
  have pre12 : ∀ t, Steps p.tables e below (T10.setTop (mkF m 19 #[.val (.ref ob), .val (.int p1), .val (.int p2), .val .null] [])) t → Steps p.tables e below (s₁.setTop (entryFrame m #[(.ref ob), (.int p1), (.int p2), .null] 4)) t := fun t k => by
    refine pre0 t ?_
    show Steps p.tables e below (s₁.setTop (mkF m 0 #[.val (.ref ob), .val (.int p1), .val (.int p2), .val .null] [])) _
    refine XS.aloadN X0.here hx rfl (hb hby d2_0) rfl rfl ?_
    show Steps p.tables e below (s₁.setTop (mkF m 1 #[.val (.ref ob), .val (.int p1), .val (.int p2), .val .null] [(.ref ob)])) _
    refine st1 _ ?_
    show Steps p.tables e below (T1.setTop (mkF m 4 #[.val (.ref ob), .val (.int p1), .val (.int p2), .val .null] [])) _
    refine XS.aloadN X1.here hx rfl (hb hby d2_4) rfl rfl ?_
    show Steps p.tables e below (T1.setTop (mkF m 5 #[.val (.ref ob), .val (.int p1), .val (.int p2), .val .null] [(.ref ob)])) _
    refine XS.iloadN X1.here hx rfl (hb hby d2_5) rfl ?_
    show Steps p.tables e below (T1.setTop (mkF m 6 #[.val (.ref ob), .val (.int p1), .val (.int p2), .val .null] [(.int p1), (.ref ob)])) _
    refine st2 _ ?_
    show Steps p.tables e below (T2.setTop (mkF m 9 #[.val (.ref ob), .val (.int p1), .val (.int p2), .val .null] [])) _
    refine XS.aloadN X2.here hx rfl (hb hby d2_9) rfl rfl ?_
    show Steps p.tables e below (T2.setTop (mkF m 10 #[.val (.ref ob), .val (.int p1), .val (.int p2), .val .null] [(.ref ob)])) _
    refine XS.iloadN X2.here hx rfl (hb hby d2_10) rfl ?_
    show Steps p.tables e below (T2.setTop (mkF m 11 #[.val (.ref ob), .val (.int p1), .val (.int p2), .val .null] [(.int p2), (.ref ob)])) _
    refine st6 _ ?_
    show Steps p.tables e below (T6.setTop (mkF m 14 #[.val (.ref ob), .val (.int p1), .val (.int p2), .val .null] [])) _
    refine XS.aloadN X6.here hx rfl (hb hby d2_14) rfl rfl ?_
    show Steps p.tables e below (T6.setTop (mkF m 15 #[.val (.ref ob), .val (.int p1), .val (.int p2), .val .null] [(.ref ob)])) _
    refine XS.aloadN X6.here hx rfl (hb hby d2_15) rfl rfl ?_
    show Steps p.tables e below (T6.setTop (mkF m 16 #[.val (.ref ob), .val (.int p1), .val (.int p2), .val .null] [.null, (.ref ob)])) _
    refine st10 _ ?_
    exact k
  obtain ⟨fs, hrq, hrun, hended, hW, hsame⟩ := X10.leave (v := none) (fun _ => rfl)
  refine ⟨_, _, pre12 _ ?_, hrun, hended, _, _, rfl, ?_, ⟨_, rfl⟩, hW, hsame.mono (by decide) (by decide)⟩
  · show Steps p.tables e below (T10.setTop (mkF m 19 #[.val (.ref ob), .val (.int p1), .val (.int p2), .val .null] [])) _
    exact X10.returnOut hx Bd.returns (hb hby d2_19) hrq
  · show QP2 Z ob p1 p2 h0 n0 _ T10.heap _
    rw [e10]
    exact ⟨rfl, N10, K10⟩
theorem pd_0 : parseMethodDescriptor "(IILjava/lang/String;)V" = some ⟨[.int, .int, (.object "java/lang/String")], none⟩ := by decide +kernel
theorem d1_0 : decode prog_88_method_1_code 0 = .ok (.aload_n 0, 1) := by decide +kernel
theorem d1_1 : decode prog_88_method_1_code 1 = .ok (.iload_n 1, 1) := by decide +kernel
theorem d1_2 : decode prog_88_method_1_code 2 = .ok (.iload_n 2, 1) := by decide +kernel
theorem d1_3 : decode prog_88_method_1_code 3 = .ok (.aconst_null, 1) := by decide +kernel
theorem d1_4 : decode prog_88_method_1_code 4 = .ok (.invokespecial 1, 3) := by decide +kernel
theorem d1_7 : decode prog_88_method_1_code 7 = .ok (.return_, 1) := by decide +kernel
theorem ef_rmP1 (m : MethodId) (x0 : Addr) (x1 : Int32) (x2 : Int32) : entryFrame m #[(.ref x0), (.int x1), (.int x2)] 3 = mkF m 0 #[.val (.ref x0), .val (.int x1), .val (.int x2)] [] := by first | (simp [entryFrame, mkF, argsToLocals, Value.category]; done) | rfl
def QP1 (Z : State) (ob : Addr) (p1 : Int32) (p2 : Int32) (h0 : Heap) (n0 : Nat) (v : Option Value) (h : Heap) (L : List Loc) : Prop := v = none ∧ Fr n0 L ∧ Keep h0 h [ob]
set_option maxRecDepth 65536 in
set_option maxHeartbeats 40000000 in
theorem rmP1 (l : Launch) (Z : State) (a0 : Array Value) (hw : ∀ d ∈ tables_1, d.before a0 Z = true) (ws : List Jvm.Cond) (ob : Addr) (p1 : Int32) (p2 : Int32) (h0 : Heap) (n0 : Nat) (Z0 : n0 ≤ h0.size) (E_ob : Exa Z h0 ob "com/example/semijoin/semijoin/query/Position") (F_line : Fld Z h0 ob "com/example/semijoin/semijoin/query/Position" "line" "I" (.int (0 : Int32))) (F_column : Fld Z h0 ob "com/example/semijoin/semijoin/query/Position" "column" "I" (.int (0 : Int32))) (F_source : Fld Z h0 ob "com/example/semijoin/semijoin/query/Position" "source" "Ljava/lang/String;" .null) (g_ob : n0 ≤ ob) :
    MetFree l (⟨"com/example/semijoin/semijoin/query/Position", "<init>", "(II)V"⟩ : MethodName) (head1 (Jvm.Cond.code (⟨"com/example/semijoin/semijoin/query/Position", "<init>", "(II)V"⟩ : MethodName) prog_88_method_1_code 3 none :: ws) ({ frames := 2, cells := 0, slots := 0, locals := 27 } : Room)) (fun a U => a = #[(.ref ob), (.int p1), (.int p2)] ∧ Z.Warmed39 U.vm ∧ U.heap = h0) (fun _ _ _ _ _ => True) (fun _ U o U' => ∃ v L, o = .returned v ∧ QP1 Z ob p1 p2 h0 n0 v U'.heap L ∧ FrameEnd U o U' L ({ frames := 2, cells := 0, slots := 0, locals := 27 } : Room).cells ({ frames := 2, cells := 0, slots := 0, locals := 27 } : Room).slots) := by
  refine MetFree.of_bodySF (plainFor_of_name pn_0) hisR ?_
  intro p e s0 m args below meth c s₁ Bd hml0 hP hK
  obtain ⟨rfl, hZ, hh⟩ := hP
  have hx := Bd.exec
  have hby := Bd.bytes
  have hml : c.maxLocals = 3 := hml0
  have hown : s0.vm.findClass "com/example/semijoin/semijoin/query/Position" = some m.cls := findClass_of_methodNamed Bd.named
  have hnm := (name_of_methodNamed Bd.named Bd.method).1
  have X0 : Stand p l e ({ frames := 2, cells := 0, slots := 0, locals := 27 } : Room) s0 m #[(.ref ob), (.int p1), (.int p2)] below meth c s₁ [] 0 0 := Stand.of_body Bd
  have e0 : s₁.heap = h0 := by rw [← hh, Bd.state]; rfl
  have N0 := Fr.nil n0
  have pre0 : ∀ t, Steps p.tables e below (s₁.setTop (mkF m 0 #[.val (.ref ob), .val (.int p1), .val (.int p2)] [])) t → Steps p.tables e below (s₁.setTop (entryFrame m #[(.ref ob), (.int p1), (.int p2)] 3)) t := fun t k => castTop (ef_rmP1 m ob p1 p2) k
  obtain ⟨_, _, ⟨T1, L1, k1, n1⟩, -, X1, ⟨Lc1, hQ1, l1, y1, z1⟩, st1⟩ := X0.specialBack hx (y := (⟨"com/example/semijoin/semijoin/query/Position", "<init>", "(IILjava/lang/String;)V"⟩ : MethodName)) rfl hown (mvT hZ (hw _ (List.mem_of_getElem? (i := 6) rfl))) (mvT hZ (hw _ (List.mem_of_getElem? (i := 7) rfl))) (mvT hZ (hw _ (List.mem_of_getElem? (i := 8) rfl))) (by decide) (backOf (W := 0) (rmP2 l Z a0 hw [] ob p1 p2 h0 n0 Z0 E_ob F_line F_column F_source g_ob) hZ (hw _ (List.mem_of_getElem? (i := 8) rfl)) (hw _ (List.mem_of_getElem? (i := 2) rfl)) (by decide) (by decide)) (g := (mkF m 4 #[.val (.ref ob), .val (.int p1), .val (.int p2)] [.null, (.int p2), (.int p1), (.ref ob)])) rfl (by rw [hml]; rfl) (Steps.refl _) (a := ob) (argsL := [(.int p1), (.int p2), .null]) (rest := []) (lenOf pd_0 rfl) rfl (by show 2 * 0 + _ ≤ _; exact Nat.le_of_eq rfl) (hb hby d1_4) (fun _ _ => ⟨rfl, e0, (by decide : 0 + 0 ≤ _), (by decide : 0 + 0 ≤ _)⟩)
  dsimp only [Pt.U, Pt.locs, Pt.cells, Pt.slots] at X1 l1 y1 z1 st1 hQ1
  subst l1 y1 z1
  obtain ⟨rfl, Nq1, Kq1⟩ := hQ1
  have N1 := Fr.app N0 Nq1
  have Z2 : n0 ≤ T1.heap.size := Nat.le_trans Z0 Kq1.1
  have K3 : Keep h0 T1.heap [ob] := (Keep.refl h0 [ob]).trans Kq1 (allS (Or.inl (List.mem_of_getElem? (i := 0) rfl)) all0)
  have pre4 : ∀ t, Steps p.tables e below (T1.setTop (mkF m 7 #[.val (.ref ob), .val (.int p1), .val (.int p2)] [])) t → Steps p.tables e below (s₁.setTop (entryFrame m #[(.ref ob), (.int p1), (.int p2)] 3)) t := fun t k => by
    refine pre0 t ?_
    show Steps p.tables e below (s₁.setTop (mkF m 0 #[.val (.ref ob), .val (.int p1), .val (.int p2)] [])) _
    refine XS.aloadN X0.here hx rfl (hb hby d1_0) rfl rfl ?_
    show Steps p.tables e below (s₁.setTop (mkF m 1 #[.val (.ref ob), .val (.int p1), .val (.int p2)] [(.ref ob)])) _
    refine XS.iloadN X0.here hx rfl (hb hby d1_1) rfl ?_
    show Steps p.tables e below (s₁.setTop (mkF m 2 #[.val (.ref ob), .val (.int p1), .val (.int p2)] [(.int p1), (.ref ob)])) _
    refine XS.iloadN X0.here hx rfl (hb hby d1_2) rfl ?_
    show Steps p.tables e below (s₁.setTop (mkF m 3 #[.val (.ref ob), .val (.int p1), .val (.int p2)] [(.int p2), (.int p1), (.ref ob)])) _
    refine XS.aconstNull X0.here hx rfl (hb hby d1_3) ?_
    show Steps p.tables e below (s₁.setTop (mkF m 4 #[.val (.ref ob), .val (.int p1), .val (.int p2)] [.null, (.int p2), (.int p1), (.ref ob)])) _
    refine st1.trans ?_
    exact k
  obtain ⟨fs, hrq, hrun, hended, hW, hsame⟩ := X1.leave (v := none) (fun _ => rfl)
  refine ⟨_, _, pre4 _ ?_, hrun, hended, _, _, rfl, ?_, ⟨_, rfl⟩, hW, hsame.mono (by decide) (by decide)⟩
  · show Steps p.tables e below (T1.setTop (mkF m 7 #[.val (.ref ob), .val (.int p1), .val (.int p2)] [])) _
    exact X1.returnOut hx Bd.returns (hb hby d1_7) hrq
  · show QP1 Z ob p1 p2 h0 n0 _ T1.heap _
    exact ⟨rfl, N1, K3⟩
theorem d7_0 : decode jdk_42_method_151_code 0 = .ok (.aload_n 0, 1) := by decide +kernel
theorem d7_1 : decode jdk_42_method_151_code 1 = .ok (.invokespecial 1, 3) := by decide +kernel
theorem d7_4 : decode jdk_42_method_151_code 4 = .ok (.aload_n 0, 1) := by decide +kernel
theorem d7_5 : decode jdk_42_method_151_code 5 = .ok (.aload_n 1, 1) := by decide +kernel
theorem d7_6 : decode jdk_42_method_151_code 6 = .ok (.putfield 9, 3) := by decide +kernel
theorem d7_9 : decode jdk_42_method_151_code 9 = .ok (.aload_n 0, 1) := by decide +kernel
theorem d7_10 : decode jdk_42_method_151_code 10 = .ok (.iload_n 2, 1) := by decide +kernel
theorem d7_11 : decode jdk_42_method_151_code 11 = .ok (.putfield 15, 3) := by decide +kernel
theorem d7_14 : decode jdk_42_method_151_code 14 = .ok (.return_, 1) := by decide +kernel
theorem ef_rmSI (m : MethodId) (x0 : Addr) (x1 : Addr) (x2 : Int32) : entryFrame m #[(.ref x0), (.ref x1), (.int x2)] 3 = mkF m 0 #[.val (.ref x0), .val (.ref x1), .val (.int x2)] [] := by first | (simp [entryFrame, mkF, argsToLocals, Value.category]; done) | rfl
theorem pn_1 : plainName "java/lang/String" = true := by first | (simp [plainName, overriddenIn]; done) | decide +kernel
def QSI (Z : State) (ob : Addr) (ar : Addr) (p2 : Int32) (h0 : Heap) (n0 : Nat) (v : Option Value) (h : Heap) (L : List Loc) : Prop := v = none ∧ Fr n0 L ∧ Keep h0 h [ob]
set_option maxRecDepth 65536 in
set_option maxHeartbeats 40000000 in
theorem rmSI (l : Launch) (Z : State) (a0 : Array Value) (hw : ∀ d ∈ tables_1, d.before a0 Z = true) (ws : List Jvm.Cond) (ob : Addr) (ar : Addr) (p2 : Int32) (h0 : Heap) (n0 : Nat) (Z0 : n0 ≤ h0.size) (E_ob : Exa Z h0 ob "java/lang/String") (F_value : Fld Z h0 ob "java/lang/String" "value" "[B" .null) (F_coder : Fld Z h0 ob "java/lang/String" "coder" "B" (.int (0 : Int32))) (g_ob : n0 ≤ ob) :
    MetFree l (⟨"java/lang/String", "<init>", "([BB)V"⟩ : MethodName) (head1 (Jvm.Cond.code (⟨"java/lang/String", "<init>", "([BB)V"⟩ : MethodName) jdk_42_method_151_code 3 none :: ws) ({ frames := 1, cells := 0, slots := 0, locals := 12 } : Room)) (fun a U => a = #[(.ref ob), (.ref ar), (.int p2)] ∧ Z.Warmed39 U.vm ∧ U.heap = h0) (fun _ _ _ _ _ => True) (fun _ U o U' => ∃ v L, o = .returned v ∧ QSI Z ob ar p2 h0 n0 v U'.heap L ∧ FrameEnd U o U' L ({ frames := 1, cells := 0, slots := 0, locals := 12 } : Room).cells ({ frames := 1, cells := 0, slots := 0, locals := 12 } : Room).slots) := by
  refine MetFree.of_bodySF (plainFor_of_name pn_1) hisR ?_
  intro p e s0 m args below meth c s₁ Bd hml0 hP hK
  obtain ⟨rfl, hZ, hh⟩ := hP
  have hx := Bd.exec
  have hby := Bd.bytes
  have hml : c.maxLocals = 3 := hml0
  have hown : s0.vm.findClass "java/lang/String" = some m.cls := findClass_of_methodNamed Bd.named
  have hnm := (name_of_methodNamed Bd.named Bd.method).1
  have X0 : Stand p l e ({ frames := 1, cells := 0, slots := 0, locals := 12 } : Room) s0 m #[(.ref ob), (.ref ar), (.int p2)] below meth c s₁ [] 0 0 := Stand.of_body Bd
  have e0 : s₁.heap = h0 := by rw [← hh, Bd.state]; rfl
  have N0 := Fr.nil n0
  have pre0 : ∀ t, Steps p.tables e below (s₁.setTop (mkF m 0 #[.val (.ref ob), .val (.ref ar), .val (.int p2)] [])) t → Steps p.tables e below (s₁.setTop (entryFrame m #[(.ref ob), (.ref ar), (.int p2)] 3)) t := fun t k => castTop (ef_rmSI m ob ar p2) k
  obtain ⟨T1, X1, e1, st1⟩ := initO X0 hx hZ hown (hw _ (List.mem_of_getElem? (i := 40) rfl)) (hw _ (List.mem_of_getElem? (i := 10) rfl)) (hw _ (List.mem_of_getElem? (i := 11) rfl)) e0 (g := (mkF m 1 #[.val (.ref ob), .val (.ref ar), .val (.int p2)] [(.ref ob)])) rfl (by rw [hml]; rfl) rfl (hb hby d7_1) (by decide) (W := 0) (by show 2 * 0 + _ ≤ _; exact Nat.le_of_eq rfl) (by decide)
  obtain ⟨T2, h2, X2, e2, W2, st2⟩ := putF X1 hx hZ hown (host := "") (Or.inl (hw _ (List.mem_of_getElem? (i := 41) rfl))) Via.refl e1 F_value E_ob (Or.inr ⟨(hw _ (List.mem_of_getElem? (i := 42) rfl)), rfl, hnm⟩) (hw _ (List.mem_of_getElem? (i := 31) rfl)) (ty := (.array .byte)) (by decide) rfl rfl (g := (mkF m 6 #[.val (.ref ob), .val (.ref ar), .val (.int p2)] [(.ref ar), (.ref ob)])) rfl rfl (hb hby d7_6)
  have Fw2 : Fld Z h2 ob "java/lang/String" "value" "[B" (.ref ar) := F_value.same W2
  have Z3 : n0 ≤ h2.size := Nat.le_trans Z0 (Keep.of_wr W2).1
  have K2 : Keep h0 h2 [ob] := (Keep.refl h0 [ob]).wr W2 (Or.inl (List.mem_of_getElem? (i := 0) rfl))
  have N2 := Fr.snoc X2 N0 g_ob
  have c4 : Exa Z h2 ob "java/lang/String" := (E_ob.wr W2)
  have c5 : Fld Z h2 ob "java/lang/String" "coder" "B" (.int (0 : Int32)) := (F_coder.other W2 (Or.inr (slot_ne (a0 := a0) (Or.inr (hw _ (List.mem_of_getElem? (i := 44) rfl))) (Or.inr (hw _ (List.mem_of_getElem? (i := 42) rfl))) (by decide) (t := .byte) (t' := (.array .byte)) (by decide) (by decide))))
  obtain ⟨T6, h6, X6, e6, W6, st6⟩ := putFN X2 hx hZ hown (hw _ (List.mem_of_getElem? (i := 43) rfl)) Via.refl e2 c5 c4 (Or.inr ⟨(hw _ (List.mem_of_getElem? (i := 44) rfl)), rfl, hnm⟩) (hw _ (List.mem_of_getElem? (i := 31) rfl)) (ty := .byte) (v' := (.int (nar .byte p2))) (by decide) rfl (fits_nar_byte _) (g := (mkF m 11 #[.val (.ref ob), .val (.ref ar), .val (.int p2)] [(.int p2), (.ref ob)])) rfl rfl (hb hby d7_11)
  have Fw6 : Fld Z h6 ob "java/lang/String" "coder" "B" (.int (nar .byte p2)) := c5.same W6
  have Z7 : n0 ≤ h6.size := Nat.le_trans Z3 (Keep.of_wr W6).1
  have K6 : Keep h0 h6 [ob] := K2.wr W6 (Or.inl (List.mem_of_getElem? (i := 0) rfl))
  have N6 := Fr.snoc X6 N2 g_ob
  have pre8 : ∀ t, Steps p.tables e below (T6.setTop (mkF m 14 #[.val (.ref ob), .val (.ref ar), .val (.int p2)] [])) t → Steps p.tables e below (s₁.setTop (entryFrame m #[(.ref ob), (.ref ar), (.int p2)] 3)) t := fun t k => by
    refine pre0 t ?_
    show Steps p.tables e below (s₁.setTop (mkF m 0 #[.val (.ref ob), .val (.ref ar), .val (.int p2)] [])) _
    refine XS.aloadN X0.here hx rfl (hb hby d7_0) rfl rfl ?_
    show Steps p.tables e below (s₁.setTop (mkF m 1 #[.val (.ref ob), .val (.ref ar), .val (.int p2)] [(.ref ob)])) _
    refine st1 _ ?_
    show Steps p.tables e below (T1.setTop (mkF m 4 #[.val (.ref ob), .val (.ref ar), .val (.int p2)] [])) _
    refine XS.aloadN X1.here hx rfl (hb hby d7_4) rfl rfl ?_
    show Steps p.tables e below (T1.setTop (mkF m 5 #[.val (.ref ob), .val (.ref ar), .val (.int p2)] [(.ref ob)])) _
    refine XS.aloadN X1.here hx rfl (hb hby d7_5) rfl rfl ?_
    show Steps p.tables e below (T1.setTop (mkF m 6 #[.val (.ref ob), .val (.ref ar), .val (.int p2)] [(.ref ar), (.ref ob)])) _
    refine st2 _ ?_
    show Steps p.tables e below (T2.setTop (mkF m 9 #[.val (.ref ob), .val (.ref ar), .val (.int p2)] [])) _
    refine XS.aloadN X2.here hx rfl (hb hby d7_9) rfl rfl ?_
    show Steps p.tables e below (T2.setTop (mkF m 10 #[.val (.ref ob), .val (.ref ar), .val (.int p2)] [(.ref ob)])) _
    refine XS.iloadN X2.here hx rfl (hb hby d7_10) rfl ?_
    show Steps p.tables e below (T2.setTop (mkF m 11 #[.val (.ref ob), .val (.ref ar), .val (.int p2)] [(.int p2), (.ref ob)])) _
    refine st6 _ ?_
    exact k
  obtain ⟨fs, hrq, hrun, hended, hW, hsame⟩ := X6.leave (v := none) (fun _ => rfl)
  refine ⟨_, _, pre8 _ ?_, hrun, hended, _, _, rfl, ?_, ⟨_, rfl⟩, hW, hsame.mono (by decide) (by decide)⟩
  · show Steps p.tables e below (T6.setTop (mkF m 14 #[.val (.ref ob), .val (.ref ar), .val (.int p2)] [])) _
    exact X6.returnOut hx Bd.returns (hb hby d7_14) hrq
  · show QSI Z ob ar p2 h0 n0 _ T6.heap _
    rw [e6]
    exact ⟨rfl, N6, K6⟩
theorem d5_0 : decode jdk_43_method_3_code 0 = .ok (.iload_n 0, 1) := by decide +kernel
theorem d5_1 : decode jdk_43_method_3_code 1 = .ok (.sipush 255, 3) := by decide +kernel
theorem d5_4 : decode jdk_43_method_3_code 4 = .ok (.if_icmp .gt 7, 3) := by decide +kernel
theorem d5_7 : decode jdk_43_method_3_code 7 = .ok (.iconst 1, 1) := by decide +kernel
theorem d5_8 : decode jdk_43_method_3_code 8 = .ok (.goto 4, 3) := by decide +kernel
theorem d5_12 : decode jdk_43_method_3_code 12 = .ok (.ireturn, 1) := by decide +kernel
theorem ef_rmCE (m : MethodId) (x0 : Int32) : entryFrame m #[(.int x0)] 1 = mkF m 0 #[.val (.int x0)] [] := by first | (simp [entryFrame, mkF, argsToLocals, Value.category]; done) | rfl
theorem pn_2 : plainName "java/lang/StringLatin1" = true := by first | (simp [plainName, overriddenIn]; done) | decide +kernel
def QCE (Z : State) (p0 : Int32) (h0 : Heap) (n0 : Nat) (v : Option Value) (h : Heap) (L : List Loc) : Prop := v = some (.int 1) ∧ Fr n0 L ∧ h = h0
set_option maxRecDepth 65536 in
set_option maxHeartbeats 40000000 in
theorem rmCE (l : Launch) (Z : State) (a0 : Array Value) (hw : ∀ d ∈ tables_1, d.before a0 Z = true) (ws : List Jvm.Cond) (p0 : Int32) (h0 : Heap) (n0 : Nat) (Z0 : n0 ≤ h0.size) (hp : ¬ ((255 : Int32) < p0)) :
    MetFree l (⟨"java/lang/StringLatin1", "canEncode", "(C)Z"⟩ : MethodName) (head1 (Jvm.Cond.code (⟨"java/lang/StringLatin1", "canEncode", "(C)Z"⟩ : MethodName) jdk_43_method_3_code 1 (some .boolean) :: ws) ({ frames := 0, cells := 0, slots := 0, locals := 0 } : Room)) (fun a U => a = #[(.int p0)] ∧ Z.Warmed39 U.vm ∧ U.heap = h0) (fun _ _ _ _ _ => True) (fun _ U o U' => ∃ v L, o = .returned v ∧ QCE Z p0 h0 n0 v U'.heap L ∧ FrameEnd U o U' L ({ frames := 0, cells := 0, slots := 0, locals := 0 } : Room).cells ({ frames := 0, cells := 0, slots := 0, locals := 0 } : Room).slots) := by
  refine MetFree.of_bodySF (plainFor_of_name pn_2) hisR ?_
  intro p e s0 m args below meth c s₁ Bd hml0 hP hK
  obtain ⟨rfl, hZ, hh⟩ := hP
  have hx := Bd.exec
  have hby := Bd.bytes
  have hml : c.maxLocals = 1 := hml0
  have hown : s0.vm.findClass "java/lang/StringLatin1" = some m.cls := findClass_of_methodNamed Bd.named
  have hnm := (name_of_methodNamed Bd.named Bd.method).1
  have X0 : Stand p l e ({ frames := 0, cells := 0, slots := 0, locals := 0 } : Room) s0 m #[(.int p0)] below meth c s₁ [] 0 0 := Stand.of_body Bd
  have e0 : s₁.heap = h0 := by rw [← hh, Bd.state]; rfl
  have N0 := Fr.nil n0
  have pre0 : ∀ t, Steps p.tables e below (s₁.setTop (mkF m 0 #[.val (.int p0)] [])) t → Steps p.tables e below (s₁.setTop (entryFrame m #[(.int p0)] 1)) t := fun t k => castTop (ef_rmCE m p0) k
  have pre1 : ∀ t, Steps p.tables e below (s₁.setTop (mkF m 12 #[.val (.int p0)] [(.int (1 : Int32))])) t → Steps p.tables e below (s₁.setTop (entryFrame m #[(.int p0)] 1)) t := fun t k => by
    refine pre0 t ?_
    show Steps p.tables e below (s₁.setTop (mkF m 0 #[.val (.int p0)] [])) _
    refine XS.iloadN X0.here hx rfl (hb hby d5_0) rfl ?_
    show Steps p.tables e below (s₁.setTop (mkF m 1 #[.val (.int p0)] [(.int p0)])) _
    refine XS.sipush X0.here hx rfl (hb hby d5_1) ?_
    show Steps p.tables e below (s₁.setTop (mkF m 4 #[.val (.int p0)] [(.int (255 : Int32)), (.int p0)])) _
    refine XS.icmpNo X0.here hx rfl (hb hby d5_4) rfl (flt (hp : ¬ ((255 : Int32) < p0))).2.2.1 ?_
    show Steps p.tables e below (s₁.setTop (mkF m 7 #[.val (.int p0)] [])) _
    refine XS.iconst X0.here hx rfl (hb hby d5_7) ?_
    show Steps p.tables e below (s₁.setTop (mkF m 8 #[.val (.int p0)] [(.int (1 : Int32))])) _
    refine XS.goto X0.here hx rfl (pc0 := 8) (pc' := 12) rfl (hb hby d5_8) (by decide) (by decide) ?_
    exact k
  obtain ⟨fs, hrq, hrun, hended, hW, hsame⟩ := X0.leave (v := some (.int (1 : Int32))) (fun h => by rw [Bd.returns] at h; cases h)
  refine ⟨_, _, pre1 _ ?_, hrun, hended, _, _, rfl, ?_, ⟨_, rfl⟩, hW, hsame.mono (by decide) (by decide)⟩
  · show Steps p.tables e below (s₁.setTop (mkF m 12 #[.val (.int p0)] [(.int (1 : Int32))])) _
    exact retN X0 hx (t := .boolean) Bd.returns (by simp) (hb hby d5_12) hrq
  · show QCE Z p0 h0 n0 _ s₁.heap _
    rw [e0]
    exact ⟨rfl, N0, rfl⟩
theorem d6_0 : decode jdk_43_method_46_code 0 = .ok (.iconst 1, 1) := by decide +kernel
theorem d6_1 : decode jdk_43_method_46_code 1 = .ok (.newarray .byte, 2) := by decide +kernel
theorem d6_3 : decode jdk_43_method_46_code 3 = .ok (.dup, 1) := by decide +kernel
theorem d6_4 : decode jdk_43_method_46_code 4 = .ok (.iconst 0, 1) := by decide +kernel
theorem d6_5 : decode jdk_43_method_46_code 5 = .ok (.iload_n 0, 1) := by decide +kernel
theorem d6_6 : decode jdk_43_method_46_code 6 = .ok (.i2b, 1) := by decide +kernel
theorem d6_7 : decode jdk_43_method_46_code 7 = .ok (.bastore, 1) := by decide +kernel
theorem d6_8 : decode jdk_43_method_46_code 8 = .ok (.areturn, 1) := by decide +kernel
theorem ef_rmTB (m : MethodId) (x0 : Int32) : entryFrame m #[(.int x0)] 1 = mkF m 0 #[.val (.int x0)] [] := by first | (simp [entryFrame, mkF, argsToLocals, Value.category]; done) | rfl
def QTB (Z : State) (p0 : Int32) (h0 : Heap) (n0 : Nat) (v : Option Value) (h : Heap) (L : List Loc) : Prop := ∃ ar : Addr, v = some (.ref ar) ∧ Fr n0 L ∧ Keep h0 h []
set_option maxRecDepth 65536 in
set_option maxHeartbeats 40000000 in
theorem rmTB (l : Launch) (Z : State) (a0 : Array Value) (hw : ∀ d ∈ tables_1, d.before a0 Z = true) (ws : List Jvm.Cond) (p0 : Int32) (h0 : Heap) (n0 : Nat) (Z0 : n0 ≤ h0.size)  :
    MetFree l (⟨"java/lang/StringLatin1", "toBytes", "(C)[B"⟩ : MethodName) (head1 (Jvm.Cond.code (⟨"java/lang/StringLatin1", "toBytes", "(C)[B"⟩ : MethodName) jdk_43_method_46_code 1 (some (.array .byte)) :: ws) ({ frames := 0, cells := 1, slots := 1, locals := 0 } : Room)) (fun a U => a = #[(.int p0)] ∧ Z.Warmed39 U.vm ∧ U.heap = h0) (fun _ _ _ _ _ => True) (fun _ U o U' => ∃ v L, o = .returned v ∧ QTB Z p0 h0 n0 v U'.heap L ∧ FrameEnd U o U' L ({ frames := 0, cells := 1, slots := 1, locals := 0 } : Room).cells ({ frames := 0, cells := 1, slots := 1, locals := 0 } : Room).slots) := by
  refine MetFree.of_bodySF (plainFor_of_name pn_2) hisR ?_
  intro p e s0 m args below meth c s₁ Bd hml0 hP hK
  obtain ⟨rfl, hZ, hh⟩ := hP
  have hx := Bd.exec
  have hby := Bd.bytes
  have hml : c.maxLocals = 1 := hml0
  have hown : s0.vm.findClass "java/lang/StringLatin1" = some m.cls := findClass_of_methodNamed Bd.named
  have hnm := (name_of_methodNamed Bd.named Bd.method).1
  have X0 : Stand p l e ({ frames := 0, cells := 1, slots := 1, locals := 0 } : Room) s0 m #[(.int p0)] below meth c s₁ [] 0 0 := Stand.of_body Bd
  have e0 : s₁.heap = h0 := by rw [← hh, Bd.state]; rfl
  have N0 := Fr.nil n0
  have pre0 : ∀ t, Steps p.tables e below (s₁.setTop (mkF m 0 #[.val (.int p0)] [])) t → Steps p.tables e below (s₁.setTop (entryFrame m #[(.int p0)] 1)) t := fun t k => castTop (ef_rmTB m p0) k
  obtain ⟨T1, h1, k1, X1, e1, E1, A1, st1⟩ := newP X0 hx hZ (hw _ (List.mem_of_getElem? (i := 35) rfl)) e0 (g := (mkF m 1 #[.val (.int p0)] [(.int (1 : Int32))])) rfl (hb hby d6_1) rfl (by decide) (cap := 1) (by decide) (by decide) (by decide) (by decide)
  obtain ⟨b1, g1⟩ : ∃ z, z = h0.size := ⟨_, rfl⟩
  rw [← g1] at A1 st1
  have g_b1 : n0 ≤ b1 := Nat.le_trans Z0 (Nat.le_of_eq g1.symm)
  have sz_b1 : h0.size ≤ b1 := Nat.le_trans (Keep.refl h0 []).1 (Nat.le_of_eq g1.symm)
  have Z2 : n0 ≤ h1.size := Nat.le_trans Z0 E1.1
  have K1 : Keep h0 h1 [] := (Keep.refl h0 []).ext E1
  have V1 : Arv Z h1 b1 k1 .byte (1 : Int32) [(.int (0 : Int32))] (.int (0 : Int32)) := (Arv.new A1 (by decide)).pad (pad_rep [] (.int (0 : Int32)) 1)
  obtain ⟨cl3, Ar3, q3, Sz3, Nz3, Hs3, Gs3⟩ := id V1
  have hin3 : ¬ ((0 : Int32) < 0 ∨ cl3.slots.size ≤ ((0 : Int32)).toNatClampNeg) := inb_of Sz3 ⟨by decide, by decide⟩
  obtain ⟨T4, h4, X4, e4, W4, st4⟩ := stB X1 hx hZ e1 Ar3 (j := (0 : Int32)) hin3 (g := (mkF m 7 #[.val (.int p0)] [(.int (p0.toInt8.toInt32)), (.int (0 : Int32)), (.ref b1), (.ref b1)])) rfl rfl (hb hby d6_7)
  have V4 : Arv Z h4 b1 k1 .byte (1 : Int32) [(.int (nar .byte (p0.toInt8.toInt32)))] (.int (0 : Int32)) := Arv.set Ar3 q3 Sz3 Nz3 Hs3 Gs3 (fits_nar_byte _) W4 0 rfl (Nat.le_of_ble_eq_true rfl)
  have Z5 : n0 ≤ h4.size := Nat.le_trans Z2 (Keep.of_wr W4).1
  have K4 : Keep h0 h4 [] := K1.wr W4 (Or.inr sz_b1)
  have N4 := Fr.snoc X4 N0 g_b1
  have pre6 : ∀ t, Steps p.tables e below (T4.setTop (mkF m 8 #[.val (.int p0)] [(.ref b1)])) t → Steps p.tables e below (s₁.setTop (entryFrame m #[(.int p0)] 1)) t := fun t k => by
    refine pre0 t ?_
    show Steps p.tables e below (s₁.setTop (mkF m 0 #[.val (.int p0)] [])) _
    refine XS.iconst X0.here hx rfl (hb hby d6_0) ?_
    show Steps p.tables e below (s₁.setTop (mkF m 1 #[.val (.int p0)] [(.int (1 : Int32))])) _
    refine st1 _ ?_
    show Steps p.tables e below (T1.setTop (mkF m 3 #[.val (.int p0)] [(.ref b1)])) _
    refine XS.dup X1.here hx rfl (hb hby d6_3) rfl rfl ?_
    show Steps p.tables e below (T1.setTop (mkF m 4 #[.val (.int p0)] [(.ref b1), (.ref b1)])) _
    refine XS.iconst X1.here hx rfl (hb hby d6_4) ?_
    show Steps p.tables e below (T1.setTop (mkF m 5 #[.val (.int p0)] [(.int (0 : Int32)), (.ref b1), (.ref b1)])) _
    refine XS.iloadN X1.here hx rfl (hb hby d6_5) rfl ?_
    show Steps p.tables e below (T1.setTop (mkF m 6 #[.val (.int p0)] [(.int p0), (.int (0 : Int32)), (.ref b1), (.ref b1)])) _
    refine XS.i2b X1.here hx rfl (hb hby d6_6) rfl ?_
    show Steps p.tables e below (T1.setTop (mkF m 7 #[.val (.int p0)] [(.int (p0.toInt8.toInt32)), (.int (0 : Int32)), (.ref b1), (.ref b1)])) _
    refine st4 _ ?_
    exact k
  obtain ⟨fs, hrq, hrun, hended, hW, hsame⟩ := X4.leave (v := some (.ref b1)) (fun h => by rw [Bd.returns] at h; cases h)
  refine ⟨_, _, pre6 _ ?_, hrun, hended, _, _, rfl, ?_, ⟨_, rfl⟩, hW, hsame.mono (by decide) (by decide)⟩
  · show Steps p.tables e below (T4.setTop (mkF m 8 #[.val (.int p0)] [(.ref b1)])) _
    exact retOut X4 hx Bd.returns rfl (Or.inr (Or.inr (Or.inr (Or.inr ⟨rfl, rfl, rfl⟩)))) (hb hby d6_8) hrq
  · show QTB Z p0 h0 n0 _ T4.heap _
    rw [e4]
    exact ⟨_, rfl, N4, K4⟩
theorem pd_1 : parseMethodDescriptor "(C)Z" = some ⟨[.char], some .boolean⟩ := by decide +kernel
theorem pd_2 : parseMethodDescriptor "(C)[B" = some ⟨[.char], some (.array .byte)⟩ := by decide +kernel
theorem pd_3 : parseMethodDescriptor "([BB)V" = some ⟨[(.array .byte), .byte], none⟩ := by decide +kernel
theorem d4_0 : decode jdk_42_method_139_code 0 = .ok (.getstatic 38, 3) := by decide +kernel
theorem d4_3 : decode jdk_42_method_139_code 3 = .ok (.ifCond .eq 23, 3) := by decide +kernel
theorem d4_6 : decode jdk_42_method_139_code 6 = .ok (.iload_n 0, 1) := by decide +kernel
theorem d4_7 : decode jdk_42_method_139_code 7 = .ok (.invokestatic 1015, 3) := by decide +kernel
theorem d4_10 : decode jdk_42_method_139_code 10 = .ok (.ifCond .eq 16, 3) := by decide +kernel
theorem d4_13 : decode jdk_42_method_139_code 13 = .ok (.new 10, 3) := by decide +kernel
theorem d4_16 : decode jdk_42_method_139_code 16 = .ok (.dup, 1) := by decide +kernel
theorem d4_17 : decode jdk_42_method_139_code 17 = .ok (.iload_n 0, 1) := by decide +kernel
theorem d4_18 : decode jdk_42_method_139_code 18 = .ok (.invokestatic 1018, 3) := by decide +kernel
theorem d4_21 : decode jdk_42_method_139_code 21 = .ok (.iconst 0, 1) := by decide +kernel
theorem d4_22 : decode jdk_42_method_139_code 22 = .ok (.invokespecial 209, 3) := by decide +kernel
theorem d4_25 : decode jdk_42_method_139_code 25 = .ok (.areturn, 1) := by decide +kernel
theorem ef_rmVO (m : MethodId) (x0 : Int32) : entryFrame m #[(.int x0)] 1 = mkF m 0 #[.val (.int x0)] [] := by first | (simp [entryFrame, mkF, argsToLocals, Value.category]; done) | rfl
def QVO (Z : State) (p0 : Int32) (cs : Int32) (h0 : Heap) (n0 : Nat) (v : Option Value) (h : Heap) (L : List Loc) : Prop := ∃ ar : Addr, v = some (.ref ar) ∧ Fr n0 L ∧ Keep h0 h []
set_option maxRecDepth 65536 in
set_option maxHeartbeats 40000000 in
theorem rmVO (l : Launch) (Z : State) (a0 : Array Value) (hw : ∀ d ∈ tables_1, d.before a0 Z = true) (ws : List Jvm.Cond) (p0 : Int32) (cs : Int32) (h0 : Heap) (n0 : Nat) (Z0 : n0 ≤ h0.size) (S_cs : Sta Z h0 "java/lang/String" "COMPACT_STRINGS" "Z" (.int cs)) (hcs : ¬ (cs = (0 : Int32))) (hp : ¬ ((255 : Int32) < p0)) :
    MetFree l (⟨"java/lang/String", "valueOf", "(C)Ljava/lang/String;"⟩ : MethodName) (head1 (Jvm.Cond.code (⟨"java/lang/String", "valueOf", "(C)Ljava/lang/String;"⟩ : MethodName) jdk_42_method_139_code 1 (some (.object "java/lang/String")) :: ws) ({ frames := 2, cells := 2, slots := 5, locals := 27 } : Room)) (fun a U => a = #[(.int p0)] ∧ Z.Warmed39 U.vm ∧ U.heap = h0) (fun _ _ _ _ _ => True) (fun _ U o U' => ∃ v L, o = .returned v ∧ QVO Z p0 cs h0 n0 v U'.heap L ∧ FrameEnd U o U' L ({ frames := 2, cells := 2, slots := 5, locals := 27 } : Room).cells ({ frames := 2, cells := 2, slots := 5, locals := 27 } : Room).slots) := by
  refine MetFree.of_bodySF (plainFor_of_name pn_1) hisR ?_
  intro p e s0 m args below meth c s₁ Bd hml0 hP hK
  obtain ⟨rfl, hZ, hh⟩ := hP
  have hx := Bd.exec
  have hby := Bd.bytes
  have hml : c.maxLocals = 1 := hml0
  have hown : s0.vm.findClass "java/lang/String" = some m.cls := findClass_of_methodNamed Bd.named
  have hnm := (name_of_methodNamed Bd.named Bd.method).1
  have X0 : Stand p l e ({ frames := 2, cells := 2, slots := 5, locals := 27 } : Room) s0 m #[(.int p0)] below meth c s₁ [] 0 0 := Stand.of_body Bd
  have e0 : s₁.heap = h0 := by rw [← hh, Bd.state]; rfl
  have N0 := Fr.nil n0
  have pre0 : ∀ t, Steps p.tables e below (s₁.setTop (mkF m 0 #[.val (.int p0)] [])) t → Steps p.tables e below (s₁.setTop (entryFrame m #[(.int p0)] 1)) t := fun t k => castTop (ef_rmVO m p0) k
  obtain ⟨T1, X1, e1, st1⟩ := getS2 X0 hx hZ hown (host := "") (Or.inl (hw _ (List.mem_of_getElem? (i := 25) rfl))) Via.refl e0 S_cs (g := (mkF m 0 #[.val (.int p0)] [])) rfl (hb hby d4_0)
  obtain ⟨_, _, ⟨T2, L2, k2, n2⟩, -, X2, ⟨Lc2, hQ2, l2, y2, z2⟩, st2⟩ := Jvm.LawKit.callS X1 hx (y := (⟨"java/lang/StringLatin1", "canEncode", "(C)Z"⟩ : MethodName)) hown (mvT hZ (hw _ (List.mem_of_getElem? (i := 26) rfl))) (mvT hZ (hw _ (List.mem_of_getElem? (i := 27) rfl))) (mvT hZ (hw _ (List.mem_of_getElem? (i := 28) rfl))) (mvT hZ (hw _ (List.mem_of_getElem? (i := 29) rfl))) (by decide) (backOf (W := 0) (rmCE l Z a0 hw [] p0 h0 n0 Z0 hp) hZ (hw _ (List.mem_of_getElem? (i := 29) rfl)) (hw _ (List.mem_of_getElem? (i := 28) rfl)) (by decide) (by decide)) (g := (mkF m 7 #[.val (.int p0)] [(.int p0)])) rfl (by rw [hml]; rfl) (argsL := [(.int p0)]) (rest := []) (lenOf pd_1 rfl) rfl (by show 2 * 0 + _ ≤ _; exact Nat.le_of_eq rfl) (hb hby d4_7) (fun _ _ => ⟨rfl, e1, (by decide : 0 + 0 ≤ _), (by decide : 0 + 0 ≤ _)⟩)
  dsimp only [Pt.U, Pt.locs, Pt.cells, Pt.slots] at X2 l2 y2 z2 st2 hQ2
  subst l2 y2 z2
  obtain ⟨rfl, Nq2, hh2⟩ := hQ2
  have N2 := Fr.app N0 Nq2
  have e2 : T2.heap = h0 := hh2
  obtain ⟨T3, h3, X3, e3, E3, A3, D3, -, st3⟩ := newO X2 hx hZ hown (hw _ (List.mem_of_getElem? (i := 30) rfl)) (hw _ (List.mem_of_getElem? (i := 31) rfl)) (hw _ (List.mem_of_getElem? (i := 23) rfl)) e2 (g := (mkF m 13 #[.val (.int p0)] [])) rfl (hb hby d4_13) (by decide) (by decide)
  obtain ⟨b3, g3⟩ : ∃ z, z = h0.size := ⟨_, rfl⟩
  rw [← g3] at A3 D3 st3
  have g_b3 : n0 ≤ b3 := Nat.le_trans Z0 (Nat.le_of_eq g3.symm)
  have sz_b3 : h0.size ≤ b3 := Nat.le_trans (Keep.refl h0 []).1 (Nat.le_of_eq g3.symm)
  have Z4 : n0 ≤ h3.size := Nat.le_trans Z0 E3.1
  have K3 : Keep h0 h3 [] := (Keep.refl h0 []).ext E3
  have F_value_b3 : Fld Z h3 b3 "java/lang/String" "value" "[B" .null := D3 (Or.inr (hw _ (List.mem_of_getElem? (i := 42) rfl))) (ty := (.array .byte)) (by decide)
  have F_coder_b3 : Fld Z h3 b3 "java/lang/String" "coder" "B" (.int (0 : Int32)) := D3 (Or.inr (hw _ (List.mem_of_getElem? (i := 44) rfl))) (ty := .byte) (by decide)
  obtain ⟨_, _, ⟨T5, L5, k5, n5⟩, -, X5, ⟨Lc5, hQ5, l5, y5, z5⟩, st5⟩ := Jvm.LawKit.callS X3 hx (y := (⟨"java/lang/StringLatin1", "toBytes", "(C)[B"⟩ : MethodName)) hown (mvT hZ (hw _ (List.mem_of_getElem? (i := 32) rfl))) (mvT hZ (hw _ (List.mem_of_getElem? (i := 33) rfl))) (mvT hZ (hw _ (List.mem_of_getElem? (i := 28) rfl))) (mvT hZ (hw _ (List.mem_of_getElem? (i := 34) rfl))) (by decide) (backOf (W := 2) (rmTB l Z a0 hw [] p0 h3 n0 Z4 ) hZ (hw _ (List.mem_of_getElem? (i := 34) rfl)) (hw _ (List.mem_of_getElem? (i := 28) rfl)) (by decide) (by decide)) (g := (mkF m 18 #[.val (.int p0)] [(.int p0), (.ref b3), (.ref b3)])) rfl (by rw [hml]; rfl) (argsL := [(.int p0)]) (rest := [(.ref b3), (.ref b3)]) (lenOf pd_2 rfl) rfl (by show 2 * 0 + _ ≤ _; exact Nat.le_of_eq rfl) (hb hby d4_18) (fun _ _ => ⟨rfl, e3, (by decide : 1 + 1 ≤ _), (by decide : 4 + 1 ≤ _)⟩)
  dsimp only [Pt.U, Pt.locs, Pt.cells, Pt.slots] at X5 l5 y5 z5 st5 hQ5
  subst l5 y5 z5
  obtain ⟨ar5, rfl, Nq5, Kq5⟩ := hQ5
  have N5 := Fr.app N2 Nq5
  have Z6 : n0 ≤ T5.heap.size := Nat.le_trans Z4 Kq5.1
  have K7 : Keep h0 T5.heap [] := K3.trans Kq5 all0
  have c8 : Exa Z T5.heap b3 "java/lang/String" := (A3.keep Kq5)
  have c9 : Fld Z T5.heap b3 "java/lang/String" "value" "[B" .null := (F_value_b3.keep Kq5 nin0)
  have c10 : Fld Z T5.heap b3 "java/lang/String" "coder" "B" (.int (0 : Int32)) := (F_coder_b3.keep Kq5 nin0)
  obtain ⟨_, _, ⟨T11, L11, k11, n11⟩, -, X11, ⟨Lc11, hQ11, l11, y11, z11⟩, st11⟩ := X5.specialBack hx (y := (⟨"java/lang/String", "<init>", "([BB)V"⟩ : MethodName)) rfl hown (mvT hZ (hw _ (List.mem_of_getElem? (i := 36) rfl))) (mvT hZ (hw _ (List.mem_of_getElem? (i := 37) rfl))) (mvT hZ (hw _ (List.mem_of_getElem? (i := 39) rfl))) (by decide) (backOf (W := 1) (rmSI l Z a0 hw [] b3 ar5 (0 : Int32) T5.heap n0 Z6 c8 c9 c10 g_b3) hZ (hw _ (List.mem_of_getElem? (i := 39) rfl)) (hw _ (List.mem_of_getElem? (i := 23) rfl)) (by decide) (by decide)) (g := (mkF m 22 #[.val (.int p0)] [(.int (0 : Int32)), (.ref ar5), (.ref b3), (.ref b3)])) rfl (by rw [hml]; rfl) (Steps.refl _) (a := b3) (argsL := [(.ref ar5), (.int (0 : Int32))]) (rest := [(.ref b3)]) (lenOf pd_3 rfl) rfl (by show 2 * 0 + _ ≤ _; exact Nat.le_of_eq rfl) (hb hby d4_22) (fun _ _ => ⟨rfl, rfl, (by decide : 2 + 0 ≤ _), (by decide : 5 + 0 ≤ _)⟩)
  dsimp only [Pt.U, Pt.locs, Pt.cells, Pt.slots] at X11 l11 y11 z11 st11 hQ11
  subst l11 y11 z11
  obtain ⟨rfl, Nq11, Kq11⟩ := hQ11
  have N11 := Fr.app N5 Nq11
  have Z12 : n0 ≤ T11.heap.size := Nat.le_trans Z6 Kq11.1
  have K13 : Keep h0 T11.heap [] := K7.trans Kq11 (allS (Or.inr sz_b3) all0)
  have pre14 : ∀ t, Steps p.tables e below (T11.setTop (mkF m 25 #[.val (.int p0)] [(.ref b3)])) t → Steps p.tables e below (s₁.setTop (entryFrame m #[(.int p0)] 1)) t := fun t k => by
    refine pre0 t ?_
    show Steps p.tables e below (s₁.setTop (mkF m 0 #[.val (.int p0)] [])) _
    refine st1 _ ?_
    show Steps p.tables e below (T1.setTop (mkF m 3 #[.val (.int p0)] [(.int cs)])) _
    refine XS.ifNo X1.here hx rfl (hb hby d4_3) rfl ((if0 _ _).trans (feq (hcs : ¬ (cs = (0 : Int32)))).1) ?_
    show Steps p.tables e below (T1.setTop (mkF m 6 #[.val (.int p0)] [])) _
    refine XS.iloadN X1.here hx rfl (hb hby d4_6) rfl ?_
    show Steps p.tables e below (T1.setTop (mkF m 7 #[.val (.int p0)] [(.int p0)])) _
    refine st2 _ ?_
    show Steps p.tables e below (T2.setTop (mkF m 10 #[.val (.int p0)] [(.int (1 : Int32))])) _
    refine XS.ifNo X2.here hx rfl (hb hby d4_10) rfl ((if0 _ _).trans (feq (by decide : ¬ ((1 : Int32) = (0 : Int32)))).1) ?_
    show Steps p.tables e below (T2.setTop (mkF m 13 #[.val (.int p0)] [])) _
    refine st3 _ ?_
    show Steps p.tables e below (T3.setTop (mkF m 16 #[.val (.int p0)] [(.ref b3)])) _
    refine XS.dup X3.here hx rfl (hb hby d4_16) rfl rfl ?_
    show Steps p.tables e below (T3.setTop (mkF m 17 #[.val (.int p0)] [(.ref b3), (.ref b3)])) _
    refine XS.iloadN X3.here hx rfl (hb hby d4_17) rfl ?_
    show Steps p.tables e below (T3.setTop (mkF m 18 #[.val (.int p0)] [(.int p0), (.ref b3), (.ref b3)])) _
    refine st5 _ ?_
    show Steps p.tables e below (T5.setTop (mkF m 21 #[.val (.int p0)] [(.ref ar5), (.ref b3), (.ref b3)])) _
    refine XS.iconst X5.here hx rfl (hb hby d4_21) ?_
    show Steps p.tables e below (T5.setTop (mkF m 22 #[.val (.int p0)] [(.int (0 : Int32)), (.ref ar5), (.ref b3), (.ref b3)])) _
    refine st11.trans ?_
    exact k
  obtain ⟨fs, hrq, hrun, hended, hW, hsame⟩ := X11.leave (v := some (.ref b3)) (fun h => by rw [Bd.returns] at h; cases h)
  refine ⟨_, _, pre14 _ ?_, hrun, hended, _, _, rfl, ?_, ⟨_, rfl⟩, hW, hsame.mono (by decide) (by decide)⟩
  · show Steps p.tables e below (T11.setTop (mkF m 25 #[.val (.int p0)] [(.ref b3)])) _
    exact retOut X11 hx Bd.returns rfl (Or.inr (Or.inr (Or.inr (Or.inr ⟨rfl, rfl, rfl⟩)))) (hb hby d4_25) hrq
  · show QVO Z p0 cs h0 n0 _ T11.heap _
    exact ⟨_, rfl, N11, K13⟩
theorem d8_0 : decode prog_74_method_1_code 0 = .ok (.aload_n 0, 1) := by decide +kernel
theorem d8_1 : decode prog_74_method_1_code 1 = .ok (.invokespecial 1, 3) := by decide +kernel
theorem d8_4 : decode prog_74_method_1_code 4 = .ok (.aload_n 0, 1) := by decide +kernel
theorem d8_5 : decode prog_74_method_1_code 5 = .ok (.aload_n 1, 1) := by decide +kernel
theorem d8_6 : decode prog_74_method_1_code 6 = .ok (.putfield 7, 3) := by decide +kernel
theorem d8_9 : decode prog_74_method_1_code 9 = .ok (.aload_n 0, 1) := by decide +kernel
theorem d8_10 : decode prog_74_method_1_code 10 = .ok (.iload_n 2, 1) := by decide +kernel
theorem d8_11 : decode prog_74_method_1_code 11 = .ok (.putfield 13, 3) := by decide +kernel
theorem d8_14 : decode prog_74_method_1_code 14 = .ok (.aload_n 0, 1) := by decide +kernel
theorem d8_15 : decode prog_74_method_1_code 15 = .ok (.aload_n 3, 1) := by decide +kernel
theorem d8_16 : decode prog_74_method_1_code 16 = .ok (.putfield 17, 3) := by decide +kernel
theorem d8_19 : decode prog_74_method_1_code 19 = .ok (.return_, 1) := by decide +kernel
theorem ef_rmII (m : MethodId) (x0 : Addr) (x1 : Addr) (x2 : Int32) (x3 : Addr) : entryFrame m #[(.ref x0), (.ref x1), (.int x2), (.ref x3)] 4 = mkF m 0 #[.val (.ref x0), .val (.ref x1), .val (.int x2), .val (.ref x3)] [] := by first | (simp [entryFrame, mkF, argsToLocals, Value.category]; done) | rfl
theorem pn_3 : plainName "com/example/semijoin/semijoin/query/Identifier" = true := by first | (simp [plainName, overriddenIn]; done) | decide +kernel
def QII (Z : State) (ob : Addr) (tx : Addr) (p2 : Int32) (po : Addr) (h0 : Heap) (n0 : Nat) (v : Option Value) (h : Heap) (L : List Loc) : Prop := v = none ∧ Fr n0 L ∧ Keep h0 h [ob] ∧ Exa Z h ob "com/example/semijoin/semijoin/query/Identifier" ∧ Fld Z h ob "com/example/semijoin/semijoin/query/Identifier" "position" "Lcom/example/semijoin/semijoin/query/Position;" (.ref po)
set_option maxRecDepth 65536 in
set_option maxHeartbeats 40000000 in
theorem rmII (l : Launch) (Z : State) (a0 : Array Value) (hw : ∀ d ∈ tables_1, d.before a0 Z = true) (ws : List Jvm.Cond) (ob : Addr) (tx : Addr) (p2 : Int32) (po : Addr) (h0 : Heap) (n0 : Nat) (Z0 : n0 ≤ h0.size) (E_ob : Exa Z h0 ob "com/example/semijoin/semijoin/query/Identifier") (F_text : Fld Z h0 ob "com/example/semijoin/semijoin/query/Identifier" "text" "Ljava/lang/String;" .null) (F_quoted : Fld Z h0 ob "com/example/semijoin/semijoin/query/Identifier" "quoted" "Z" (.int (0 : Int32))) (F_position : Fld Z h0 ob "com/example/semijoin/semijoin/query/Identifier" "position" "Lcom/example/semijoin/semijoin/query/Position;" .null) (g_ob : n0 ≤ ob) :
    MetFree l (⟨"com/example/semijoin/semijoin/query/Identifier", "<init>", "(Ljava/lang/String;ZLcom/example/semijoin/semijoin/query/Position;)V"⟩ : MethodName) (head1 (Jvm.Cond.code (⟨"com/example/semijoin/semijoin/query/Identifier", "<init>", "(Ljava/lang/String;ZLcom/example/semijoin/semijoin/query/Position;)V"⟩ : MethodName) prog_74_method_1_code 4 none :: ws) ({ frames := 1, cells := 0, slots := 0, locals := 12 } : Room)) (fun a U => a = #[(.ref ob), (.ref tx), (.int p2), (.ref po)] ∧ Z.Warmed39 U.vm ∧ U.heap = h0) (fun _ _ _ _ _ => True) (fun _ U o U' => ∃ v L, o = .returned v ∧ QII Z ob tx p2 po h0 n0 v U'.heap L ∧ FrameEnd U o U' L ({ frames := 1, cells := 0, slots := 0, locals := 12 } : Room).cells ({ frames := 1, cells := 0, slots := 0, locals := 12 } : Room).slots) := by
  refine MetFree.of_bodySF (plainFor_of_name pn_3) hisR ?_
  intro p e s0 m args below meth c s₁ Bd hml0 hP hK
  obtain ⟨rfl, hZ, hh⟩ := hP
  have hx := Bd.exec
  have hby := Bd.bytes
  have hml : c.maxLocals = 4 := hml0
  have hown : s0.vm.findClass "com/example/semijoin/semijoin/query/Identifier" = some m.cls := findClass_of_methodNamed Bd.named
  have hnm := (name_of_methodNamed Bd.named Bd.method).1
  have X0 : Stand p l e ({ frames := 1, cells := 0, slots := 0, locals := 12 } : Room) s0 m #[(.ref ob), (.ref tx), (.int p2), (.ref po)] below meth c s₁ [] 0 0 := Stand.of_body Bd
  have e0 : s₁.heap = h0 := by rw [← hh, Bd.state]; rfl
  have N0 := Fr.nil n0
  have pre0 : ∀ t, Steps p.tables e below (s₁.setTop (mkF m 0 #[.val (.ref ob), .val (.ref tx), .val (.int p2), .val (.ref po)] [])) t → Steps p.tables e below (s₁.setTop (entryFrame m #[(.ref ob), (.ref tx), (.int p2), (.ref po)] 4)) t := fun t k => castTop (ef_rmII m ob tx p2 po) k
  obtain ⟨T1, X1, e1, st1⟩ := initO X0 hx hZ hown (hw _ (List.mem_of_getElem? (i := 48) rfl)) (hw _ (List.mem_of_getElem? (i := 10) rfl)) (hw _ (List.mem_of_getElem? (i := 11) rfl)) e0 (g := (mkF m 1 #[.val (.ref ob), .val (.ref tx), .val (.int p2), .val (.ref po)] [(.ref ob)])) rfl (by rw [hml]; rfl) rfl (hb hby d8_1) (by decide) (W := 0) (by show 2 * 0 + _ ≤ _; exact Nat.le_of_eq rfl) (by decide)
  obtain ⟨T2, h2, X2, e2, W2, st2⟩ := putF X1 hx hZ hown (host := "") (Or.inl (hw _ (List.mem_of_getElem? (i := 49) rfl))) Via.refl e1 F_text E_ob (Or.inr ⟨(hw _ (List.mem_of_getElem? (i := 50) rfl)), rfl, hnm⟩) (hw _ (List.mem_of_getElem? (i := 19) rfl)) (ty := (.object "java/lang/String")) (by decide) rfl rfl (g := (mkF m 6 #[.val (.ref ob), .val (.ref tx), .val (.int p2), .val (.ref po)] [(.ref tx), (.ref ob)])) rfl rfl (hb hby d8_6)
  have Fw2 : Fld Z h2 ob "com/example/semijoin/semijoin/query/Identifier" "text" "Ljava/lang/String;" (.ref tx) := F_text.same W2
  have Z3 : n0 ≤ h2.size := Nat.le_trans Z0 (Keep.of_wr W2).1
  have K2 : Keep h0 h2 [ob] := (Keep.refl h0 [ob]).wr W2 (Or.inl (List.mem_of_getElem? (i := 0) rfl))
  have N2 := Fr.snoc X2 N0 g_ob
  have c4 : Exa Z h2 ob "com/example/semijoin/semijoin/query/Identifier" := (E_ob.wr W2)
  have c5 : Fld Z h2 ob "com/example/semijoin/semijoin/query/Identifier" "quoted" "Z" (.int (0 : Int32)) := (F_quoted.other W2 (Or.inr (slot_ne (a0 := a0) (Or.inr (hw _ (List.mem_of_getElem? (i := 52) rfl))) (Or.inr (hw _ (List.mem_of_getElem? (i := 50) rfl))) (by decide) (t := .boolean) (t' := (.object "java/lang/String")) (by decide) (by decide))))
  obtain ⟨T6, h6, X6, e6, W6, st6⟩ := putFN X2 hx hZ hown (hw _ (List.mem_of_getElem? (i := 51) rfl)) Via.refl e2 c5 c4 (Or.inr ⟨(hw _ (List.mem_of_getElem? (i := 52) rfl)), rfl, hnm⟩) (hw _ (List.mem_of_getElem? (i := 19) rfl)) (ty := .boolean) (v' := (.int (nar .boolean p2))) (by decide) rfl (fits_nar_bool _) (g := (mkF m 11 #[.val (.ref ob), .val (.ref tx), .val (.int p2), .val (.ref po)] [(.int p2), (.ref ob)])) rfl rfl (hb hby d8_11)
  have Fw6 : Fld Z h6 ob "com/example/semijoin/semijoin/query/Identifier" "quoted" "Z" (.int (nar .boolean p2)) := c5.same W6
  have Z7 : n0 ≤ h6.size := Nat.le_trans Z3 (Keep.of_wr W6).1
  have K6 : Keep h0 h6 [ob] := K2.wr W6 (Or.inl (List.mem_of_getElem? (i := 0) rfl))
  have N6 := Fr.snoc X6 N2 g_ob
  have c8 : Exa Z h6 ob "com/example/semijoin/semijoin/query/Identifier" := (c4.wr W6)
  have c9 : Fld Z h6 ob "com/example/semijoin/semijoin/query/Identifier" "position" "Lcom/example/semijoin/semijoin/query/Position;" .null := ((F_position.other W2 (Or.inr (slot_ne (a0 := a0) (Or.inr (hw _ (List.mem_of_getElem? (i := 54) rfl))) (Or.inr (hw _ (List.mem_of_getElem? (i := 50) rfl))) (by decide) (t := (.object "com/example/semijoin/semijoin/query/Position")) (t' := (.object "java/lang/String")) (by decide) (by decide)))).other W6 (Or.inr (slot_ne (a0 := a0) (Or.inr (hw _ (List.mem_of_getElem? (i := 54) rfl))) (Or.inr (hw _ (List.mem_of_getElem? (i := 52) rfl))) (by decide) (t := (.object "com/example/semijoin/semijoin/query/Position")) (t' := .boolean) (by decide) (by decide))))
  obtain ⟨T10, h10, X10, e10, W10, st10⟩ := putF X6 hx hZ hown (host := "") (Or.inl (hw _ (List.mem_of_getElem? (i := 53) rfl))) Via.refl e6 c9 c8 (Or.inr ⟨(hw _ (List.mem_of_getElem? (i := 54) rfl)), rfl, hnm⟩) (hw _ (List.mem_of_getElem? (i := 19) rfl)) (ty := (.object "com/example/semijoin/semijoin/query/Position")) (by decide) rfl rfl (g := (mkF m 16 #[.val (.ref ob), .val (.ref tx), .val (.int p2), .val (.ref po)] [(.ref po), (.ref ob)])) rfl rfl (hb hby d8_16)
  have Fw10 : Fld Z h10 ob "com/example/semijoin/semijoin/query/Identifier" "position" "Lcom/example/semijoin/semijoin/query/Position;" (.ref po) := c9.same W10
  have Z11 : n0 ≤ h10.size := Nat.le_trans Z7 (Keep.of_wr W10).1
  have K10 : Keep h0 h10 [ob] := K6.wr W10 (Or.inl (List.mem_of_getElem? (i := 0) rfl))
  have N10 := Fr.snoc X10 N6 g_ob
  have pre12 : ∀ t, Steps p.tables e below (T10.setTop (mkF m 19 #[.val (.ref ob), .val (.ref tx), .val (.int p2), .val (.ref po)] [])) t → Steps p.tables e below (s₁.setTop (entryFrame m #[(.ref ob), (.ref tx), (.int p2), (.ref po)] 4)) t := fun t k => by
    refine pre0 t ?_
    show Steps p.tables e below (s₁.setTop (mkF m 0 #[.val (.ref ob), .val (.ref tx), .val (.int p2), .val (.ref po)] [])) _
    refine XS.aloadN X0.here hx rfl (hb hby d8_0) rfl rfl ?_
    show Steps p.tables e below (s₁.setTop (mkF m 1 #[.val (.ref ob), .val (.ref tx), .val (.int p2), .val (.ref po)] [(.ref ob)])) _
    refine st1 _ ?_
    show Steps p.tables e below (T1.setTop (mkF m 4 #[.val (.ref ob), .val (.ref tx), .val (.int p2), .val (.ref po)] [])) _
    refine XS.aloadN X1.here hx rfl (hb hby d8_4) rfl rfl ?_
    show Steps p.tables e below (T1.setTop (mkF m 5 #[.val (.ref ob), .val (.ref tx), .val (.int p2), .val (.ref po)] [(.ref ob)])) _
    refine XS.aloadN X1.here hx rfl (hb hby d8_5) rfl rfl ?_
    show Steps p.tables e below (T1.setTop (mkF m 6 #[.val (.ref ob), .val (.ref tx), .val (.int p2), .val (.ref po)] [(.ref tx), (.ref ob)])) _
    refine st2 _ ?_
    show Steps p.tables e below (T2.setTop (mkF m 9 #[.val (.ref ob), .val (.ref tx), .val (.int p2), .val (.ref po)] [])) _
    refine XS.aloadN X2.here hx rfl (hb hby d8_9) rfl rfl ?_
    show Steps p.tables e below (T2.setTop (mkF m 10 #[.val (.ref ob), .val (.ref tx), .val (.int p2), .val (.ref po)] [(.ref ob)])) _
    refine XS.iloadN X2.here hx rfl (hb hby d8_10) rfl ?_
    show Steps p.tables e below (T2.setTop (mkF m 11 #[.val (.ref ob), .val (.ref tx), .val (.int p2), .val (.ref po)] [(.int p2), (.ref ob)])) _
    refine st6 _ ?_
    show Steps p.tables e below (T6.setTop (mkF m 14 #[.val (.ref ob), .val (.ref tx), .val (.int p2), .val (.ref po)] [])) _
    refine XS.aloadN X6.here hx rfl (hb hby d8_14) rfl rfl ?_
    show Steps p.tables e below (T6.setTop (mkF m 15 #[.val (.ref ob), .val (.ref tx), .val (.int p2), .val (.ref po)] [(.ref ob)])) _
    refine XS.aloadN X6.here hx rfl (hb hby d8_15) rfl rfl ?_
    show Steps p.tables e below (T6.setTop (mkF m 16 #[.val (.ref ob), .val (.ref tx), .val (.int p2), .val (.ref po)] [(.ref po), (.ref ob)])) _
    refine st10 _ ?_
    exact k
  obtain ⟨fs, hrq, hrun, hended, hW, hsame⟩ := X10.leave (v := none) (fun _ => rfl)
  refine ⟨_, _, pre12 _ ?_, hrun, hended, _, _, rfl, ?_, ⟨_, rfl⟩, hW, hsame.mono (by decide) (by decide)⟩
  · show Steps p.tables e below (T10.setTop (mkF m 19 #[.val (.ref ob), .val (.ref tx), .val (.int p2), .val (.ref po)] [])) _
    exact X10.returnOut hx Bd.returns (hb hby d8_19) hrq
  · show QII Z ob tx p2 po h0 n0 _ T10.heap _
    rw [e10]
    have c13 : Exa Z h10 ob "com/example/semijoin/semijoin/query/Identifier" := (c8.wr W10)
    exact ⟨rfl, N10, K10, c13, Fw10⟩
theorem d11_0 : decode prog_74_method_4_code 0 = .ok (.aload_n 0, 1) := by decide +kernel
theorem d11_1 : decode prog_74_method_4_code 1 = .ok (.getfield 17, 3) := by decide +kernel
theorem d11_4 : decode prog_74_method_4_code 4 = .ok (.areturn, 1) := by decide +kernel
theorem ef_rmIG (m : MethodId) (x0 : Addr) : entryFrame m #[(.ref x0)] 1 = mkF m 0 #[.val (.ref x0)] [] := by first | (simp [entryFrame, mkF, argsToLocals, Value.category]; done) | rfl
def QIG (Z : State) (ob : Addr) (po : Addr) (h0 : Heap) (n0 : Nat) (v : Option Value) (h : Heap) (L : List Loc) : Prop := v = some (.ref po) ∧ Fr n0 L ∧ h = h0
set_option maxRecDepth 65536 in
set_option maxHeartbeats 40000000 in
theorem rmIG (l : Launch) (Z : State) (a0 : Array Value) (hw : ∀ d ∈ tables_1, d.before a0 Z = true) (ws : List Jvm.Cond) (ob : Addr) (po : Addr) (h0 : Heap) (n0 : Nat) (Z0 : n0 ≤ h0.size) (F_p : Fld Z h0 ob "com/example/semijoin/semijoin/query/Identifier" "position" "Lcom/example/semijoin/semijoin/query/Position;" (.ref po)) :
    MetFree l (⟨"com/example/semijoin/semijoin/query/Identifier", "getPosition", "()Lcom/example/semijoin/semijoin/query/Position;"⟩ : MethodName) (head1 (Jvm.Cond.code (⟨"com/example/semijoin/semijoin/query/Identifier", "getPosition", "()Lcom/example/semijoin/semijoin/query/Position;"⟩ : MethodName) prog_74_method_4_code 1 (some (.object "com/example/semijoin/semijoin/query/Position")) :: ws) ({ frames := 0, cells := 0, slots := 0, locals := 0 } : Room)) (fun a U => a = #[(.ref ob)] ∧ Z.Warmed39 U.vm ∧ U.heap = h0) (fun _ _ _ _ _ => True) (fun _ U o U' => ∃ v L, o = .returned v ∧ QIG Z ob po h0 n0 v U'.heap L ∧ FrameEnd U o U' L ({ frames := 0, cells := 0, slots := 0, locals := 0 } : Room).cells ({ frames := 0, cells := 0, slots := 0, locals := 0 } : Room).slots) := by
  refine MetFree.of_bodySF (plainFor_of_name pn_3) hisR ?_
  intro p e s0 m args below meth c s₁ Bd hml0 hP hK
  obtain ⟨rfl, hZ, hh⟩ := hP
  have hx := Bd.exec
  have hby := Bd.bytes
  have hml : c.maxLocals = 1 := hml0
  have hown : s0.vm.findClass "com/example/semijoin/semijoin/query/Identifier" = some m.cls := findClass_of_methodNamed Bd.named
  have hnm := (name_of_methodNamed Bd.named Bd.method).1
  have X0 : Stand p l e ({ frames := 0, cells := 0, slots := 0, locals := 0 } : Room) s0 m #[(.ref ob)] below meth c s₁ [] 0 0 := Stand.of_body Bd
  have e0 : s₁.heap = h0 := by rw [← hh, Bd.state]; rfl
  have N0 := Fr.nil n0
  have pre0 : ∀ t, Steps p.tables e below (s₁.setTop (mkF m 0 #[.val (.ref ob)] [])) t → Steps p.tables e below (s₁.setTop (entryFrame m #[(.ref ob)] 1)) t := fun t k => castTop (ef_rmIG m ob) k
  obtain ⟨T1, X1, e1, st1⟩ := getF X0 hx hZ hown (host := "") (Or.inl (hw _ (List.mem_of_getElem? (i := 53) rfl))) Via.refl e0 F_p (g := (mkF m 1 #[.val (.ref ob)] [(.ref ob)])) rfl rfl (hb hby d11_1)
  have pre2 : ∀ t, Steps p.tables e below (T1.setTop (mkF m 4 #[.val (.ref ob)] [(.ref po)])) t → Steps p.tables e below (s₁.setTop (entryFrame m #[(.ref ob)] 1)) t := fun t k => by
    refine pre0 t ?_
    show Steps p.tables e below (s₁.setTop (mkF m 0 #[.val (.ref ob)] [])) _
    refine XS.aloadN X0.here hx rfl (hb hby d11_0) rfl rfl ?_
    show Steps p.tables e below (s₁.setTop (mkF m 1 #[.val (.ref ob)] [(.ref ob)])) _
    refine st1 _ ?_
    exact k
  obtain ⟨fs, hrq, hrun, hended, hW, hsame⟩ := X1.leave (v := some (.ref po)) (fun h => by rw [Bd.returns] at h; cases h)
  refine ⟨_, _, pre2 _ ?_, hrun, hended, _, _, rfl, ?_, ⟨_, rfl⟩, hW, hsame.mono (by decide) (by decide)⟩
  · show Steps p.tables e below (T1.setTop (mkF m 4 #[.val (.ref ob)] [(.ref po)])) _
    exact retOut X1 hx Bd.returns rfl (Or.inr (Or.inr (Or.inr (Or.inr ⟨rfl, rfl, rfl⟩)))) (hb hby d11_4) hrq
  · show QIG Z ob po h0 n0 _ T1.heap _
    rw [e1]
    exact ⟨rfl, N0, rfl⟩
theorem d9_0 : decode prog_65_method_2_code 0 = .ok (.aload_n 0, 1) := by decide +kernel
theorem d9_1 : decode prog_65_method_2_code 1 = .ok (.invokespecial 7, 3) := by decide +kernel
theorem d9_4 : decode prog_65_method_2_code 4 = .ok (.aload_n 0, 1) := by decide +kernel
theorem d9_5 : decode prog_65_method_2_code 5 = .ok (.aload_n 1, 1) := by decide +kernel
theorem d9_6 : decode prog_65_method_2_code 6 = .ok (.putfield 12, 3) := by decide +kernel
theorem d9_9 : decode prog_65_method_2_code 9 = .ok (.aload_n 0, 1) := by decide +kernel
theorem d9_10 : decode prog_65_method_2_code 10 = .ok (.aload_n 2, 1) := by decide +kernel
theorem d9_11 : decode prog_65_method_2_code 11 = .ok (.putfield 16, 3) := by decide +kernel
theorem d9_14 : decode prog_65_method_2_code 14 = .ok (.aload_n 0, 1) := by decide +kernel
theorem d9_15 : decode prog_65_method_2_code 15 = .ok (.aload_n 3, 1) := by decide +kernel
theorem d9_16 : decode prog_65_method_2_code 16 = .ok (.putfield 19, 3) := by decide +kernel
theorem d9_19 : decode prog_65_method_2_code 19 = .ok (.return_, 1) := by decide +kernel
theorem ef_rmCI00 (m : MethodId) (x0 : Addr) (x3 : Addr) : entryFrame m #[(.ref x0), .null, .null, (.ref x3)] 4 = mkF m 0 #[.val (.ref x0), .val .null, .val .null, .val (.ref x3)] [] := by first | (simp [entryFrame, mkF, argsToLocals, Value.category]; done) | rfl
theorem pn_4 : plainName "com/example/semijoin/semijoin/query/ColumnRef" = true := by first | (simp [plainName, overriddenIn]; done) | decide +kernel
def QCI00 (Z : State) (ob : Addr) (nm : Addr) (h0 : Heap) (n0 : Nat) (v : Option Value) (h : Heap) (L : List Loc) : Prop := v = none ∧ Fr n0 L ∧ Keep h0 h [ob] ∧ Exa Z h ob "com/example/semijoin/semijoin/query/ColumnRef" ∧ Fld Z h ob "com/example/semijoin/semijoin/query/ColumnRef" "schema" "Lcom/example/semijoin/semijoin/query/Identifier;" .null ∧ Fld Z h ob "com/example/semijoin/semijoin/query/ColumnRef" "qualifier" "Lcom/example/semijoin/semijoin/query/Identifier;" .null ∧ Fld Z h ob "com/example/semijoin/semijoin/query/ColumnRef" "name" "Lcom/example/semijoin/semijoin/query/Identifier;" (.ref nm)
set_option maxRecDepth 65536 in
set_option maxHeartbeats 40000000 in
theorem rmCI00 (l : Launch) (Z : State) (a0 : Array Value) (hw : ∀ d ∈ tables_1, d.before a0 Z = true) (ws : List Jvm.Cond) (ob : Addr) (nm : Addr) (h0 : Heap) (n0 : Nat) (Z0 : n0 ≤ h0.size) (E_ob : Exa Z h0 ob "com/example/semijoin/semijoin/query/ColumnRef") (F_schema : Fld Z h0 ob "com/example/semijoin/semijoin/query/ColumnRef" "schema" "Lcom/example/semijoin/semijoin/query/Identifier;" .null) (F_qualifier : Fld Z h0 ob "com/example/semijoin/semijoin/query/ColumnRef" "qualifier" "Lcom/example/semijoin/semijoin/query/Identifier;" .null) (F_name : Fld Z h0 ob "com/example/semijoin/semijoin/query/ColumnRef" "name" "Lcom/example/semijoin/semijoin/query/Identifier;" .null) (g_ob : n0 ≤ ob) :
    MetFree l (⟨"com/example/semijoin/semijoin/query/ColumnRef", "<init>", "(Lcom/example/semijoin/semijoin/query/Identifier;Lcom/example/semijoin/semijoin/query/Identifier;Lcom/example/semijoin/semijoin/query/Identifier;)V"⟩ : MethodName) (head1 (Jvm.Cond.code (⟨"com/example/semijoin/semijoin/query/ColumnRef", "<init>", "(Lcom/example/semijoin/semijoin/query/Identifier;Lcom/example/semijoin/semijoin/query/Identifier;Lcom/example/semijoin/semijoin/query/Identifier;)V"⟩ : MethodName) prog_65_method_2_code 4 none :: ws) ({ frames := 1, cells := 0, slots := 0, locals := 12 } : Room)) (fun a U => a = #[(.ref ob), .null, .null, (.ref nm)] ∧ Z.Warmed39 U.vm ∧ U.heap = h0) (fun _ _ _ _ _ => True) (fun _ U o U' => ∃ v L, o = .returned v ∧ QCI00 Z ob nm h0 n0 v U'.heap L ∧ FrameEnd U o U' L ({ frames := 1, cells := 0, slots := 0, locals := 12 } : Room).cells ({ frames := 1, cells := 0, slots := 0, locals := 12 } : Room).slots) := by
  refine MetFree.of_bodySF (plainFor_of_name pn_4) hisR ?_
  intro p e s0 m args below meth c s₁ Bd hml0 hP hK
  obtain ⟨rfl, hZ, hh⟩ := hP
  have hx := Bd.exec
  have hby := Bd.bytes
  have hml : c.maxLocals = 4 := hml0
  have hown : s0.vm.findClass "com/example/semijoin/semijoin/query/ColumnRef" = some m.cls := findClass_of_methodNamed Bd.named
  have hnm := (name_of_methodNamed Bd.named Bd.method).1
  have X0 : Stand p l e ({ frames := 1, cells := 0, slots := 0, locals := 12 } : Room) s0 m #[(.ref ob), .null, .null, (.ref nm)] below meth c s₁ [] 0 0 := Stand.of_body Bd
  have e0 : s₁.heap = h0 := by rw [← hh, Bd.state]; rfl
  have N0 := Fr.nil n0
  have pre0 : ∀ t, Steps p.tables e below (s₁.setTop (mkF m 0 #[.val (.ref ob), .val .null, .val .null, .val (.ref nm)] [])) t → Steps p.tables e below (s₁.setTop (entryFrame m #[(.ref ob), .null, .null, (.ref nm)] 4)) t := fun t k => castTop (ef_rmCI00 m ob nm) k
  obtain ⟨T1, X1, e1, st1⟩ := initO X0 hx hZ hown (hw _ (List.mem_of_getElem? (i := 61) rfl)) (hw _ (List.mem_of_getElem? (i := 10) rfl)) (hw _ (List.mem_of_getElem? (i := 11) rfl)) e0 (g := (mkF m 1 #[.val (.ref ob), .val .null, .val .null, .val (.ref nm)] [(.ref ob)])) rfl (by rw [hml]; rfl) rfl (hb hby d9_1) (by decide) (W := 0) (by show 2 * 0 + _ ≤ _; exact Nat.le_of_eq rfl) (by decide)
  obtain ⟨T2, h2, X2, e2, W2, st2⟩ := putF X1 hx hZ hown (host := "") (Or.inl (hw _ (List.mem_of_getElem? (i := 62) rfl))) Via.refl e1 F_schema E_ob (Or.inr ⟨(hw _ (List.mem_of_getElem? (i := 63) rfl)), rfl, hnm⟩) (hw _ (List.mem_of_getElem? (i := 56) rfl)) (ty := (.object "com/example/semijoin/semijoin/query/Identifier")) (by decide) rfl rfl (g := (mkF m 6 #[.val (.ref ob), .val .null, .val .null, .val (.ref nm)] [.null, (.ref ob)])) rfl rfl (hb hby d9_6)
  have Fw2 : Fld Z h2 ob "com/example/semijoin/semijoin/query/ColumnRef" "schema" "Lcom/example/semijoin/semijoin/query/Identifier;" .null := F_schema.same W2
  have Z3 : n0 ≤ h2.size := Nat.le_trans Z0 (Keep.of_wr W2).1
  have K2 : Keep h0 h2 [ob] := (Keep.refl h0 [ob]).wr W2 (Or.inl (List.mem_of_getElem? (i := 0) rfl))
  have N2 := Fr.snoc X2 N0 g_ob
  have c4 : Exa Z h2 ob "com/example/semijoin/semijoin/query/ColumnRef" := (E_ob.wr W2)
  have c5 : Fld Z h2 ob "com/example/semijoin/semijoin/query/ColumnRef" "qualifier" "Lcom/example/semijoin/semijoin/query/Identifier;" .null := (F_qualifier.other W2 (Or.inr (slot_ne (a0 := a0) (Or.inr (hw _ (List.mem_of_getElem? (i := 65) rfl))) (Or.inr (hw _ (List.mem_of_getElem? (i := 63) rfl))) (by decide) (t := (.object "com/example/semijoin/semijoin/query/Identifier")) (t' := (.object "com/example/semijoin/semijoin/query/Identifier")) (by decide) (by decide))))
  obtain ⟨T6, h6, X6, e6, W6, st6⟩ := putF X2 hx hZ hown (host := "") (Or.inl (hw _ (List.mem_of_getElem? (i := 64) rfl))) Via.refl e2 c5 c4 (Or.inr ⟨(hw _ (List.mem_of_getElem? (i := 65) rfl)), rfl, hnm⟩) (hw _ (List.mem_of_getElem? (i := 56) rfl)) (ty := (.object "com/example/semijoin/semijoin/query/Identifier")) (by decide) rfl rfl (g := (mkF m 11 #[.val (.ref ob), .val .null, .val .null, .val (.ref nm)] [.null, (.ref ob)])) rfl rfl (hb hby d9_11)
  have Fw6 : Fld Z h6 ob "com/example/semijoin/semijoin/query/ColumnRef" "qualifier" "Lcom/example/semijoin/semijoin/query/Identifier;" .null := c5.same W6
  have Z7 : n0 ≤ h6.size := Nat.le_trans Z3 (Keep.of_wr W6).1
  have K6 : Keep h0 h6 [ob] := K2.wr W6 (Or.inl (List.mem_of_getElem? (i := 0) rfl))
  have N6 := Fr.snoc X6 N2 g_ob
  have c8 : Exa Z h6 ob "com/example/semijoin/semijoin/query/ColumnRef" := (c4.wr W6)
  have c9 : Fld Z h6 ob "com/example/semijoin/semijoin/query/ColumnRef" "name" "Lcom/example/semijoin/semijoin/query/Identifier;" .null := ((F_name.other W2 (Or.inr (slot_ne (a0 := a0) (Or.inr (hw _ (List.mem_of_getElem? (i := 67) rfl))) (Or.inr (hw _ (List.mem_of_getElem? (i := 63) rfl))) (by decide) (t := (.object "com/example/semijoin/semijoin/query/Identifier")) (t' := (.object "com/example/semijoin/semijoin/query/Identifier")) (by decide) (by decide)))).other W6 (Or.inr (slot_ne (a0 := a0) (Or.inr (hw _ (List.mem_of_getElem? (i := 67) rfl))) (Or.inr (hw _ (List.mem_of_getElem? (i := 65) rfl))) (by decide) (t := (.object "com/example/semijoin/semijoin/query/Identifier")) (t' := (.object "com/example/semijoin/semijoin/query/Identifier")) (by decide) (by decide))))
  obtain ⟨T10, h10, X10, e10, W10, st10⟩ := putF X6 hx hZ hown (host := "") (Or.inl (hw _ (List.mem_of_getElem? (i := 66) rfl))) Via.refl e6 c9 c8 (Or.inr ⟨(hw _ (List.mem_of_getElem? (i := 67) rfl)), rfl, hnm⟩) (hw _ (List.mem_of_getElem? (i := 56) rfl)) (ty := (.object "com/example/semijoin/semijoin/query/Identifier")) (by decide) rfl rfl (g := (mkF m 16 #[.val (.ref ob), .val .null, .val .null, .val (.ref nm)] [(.ref nm), (.ref ob)])) rfl rfl (hb hby d9_16)
  have Fw10 : Fld Z h10 ob "com/example/semijoin/semijoin/query/ColumnRef" "name" "Lcom/example/semijoin/semijoin/query/Identifier;" (.ref nm) := c9.same W10
  have Z11 : n0 ≤ h10.size := Nat.le_trans Z7 (Keep.of_wr W10).1
  have K10 : Keep h0 h10 [ob] := K6.wr W10 (Or.inl (List.mem_of_getElem? (i := 0) rfl))
  have N10 := Fr.snoc X10 N6 g_ob
  have pre12 : ∀ t, Steps p.tables e below (T10.setTop (mkF m 19 #[.val (.ref ob), .val .null, .val .null, .val (.ref nm)] [])) t → Steps p.tables e below (s₁.setTop (entryFrame m #[(.ref ob), .null, .null, (.ref nm)] 4)) t := fun t k => by
    refine pre0 t ?_
    show Steps p.tables e below (s₁.setTop (mkF m 0 #[.val (.ref ob), .val .null, .val .null, .val (.ref nm)] [])) _
    refine XS.aloadN X0.here hx rfl (hb hby d9_0) rfl rfl ?_
    show Steps p.tables e below (s₁.setTop (mkF m 1 #[.val (.ref ob), .val .null, .val .null, .val (.ref nm)] [(.ref ob)])) _
    refine st1 _ ?_
    show Steps p.tables e below (T1.setTop (mkF m 4 #[.val (.ref ob), .val .null, .val .null, .val (.ref nm)] [])) _
    refine XS.aloadN X1.here hx rfl (hb hby d9_4) rfl rfl ?_
    show Steps p.tables e below (T1.setTop (mkF m 5 #[.val (.ref ob), .val .null, .val .null, .val (.ref nm)] [(.ref ob)])) _
    refine XS.aloadN X1.here hx rfl (hb hby d9_5) rfl rfl ?_
    show Steps p.tables e below (T1.setTop (mkF m 6 #[.val (.ref ob), .val .null, .val .null, .val (.ref nm)] [.null, (.ref ob)])) _
    refine st2 _ ?_
    show Steps p.tables e below (T2.setTop (mkF m 9 #[.val (.ref ob), .val .null, .val .null, .val (.ref nm)] [])) _
    refine XS.aloadN X2.here hx rfl (hb hby d9_9) rfl rfl ?_
    show Steps p.tables e below (T2.setTop (mkF m 10 #[.val (.ref ob), .val .null, .val .null, .val (.ref nm)] [(.ref ob)])) _
    refine XS.aloadN X2.here hx rfl (hb hby d9_10) rfl rfl ?_
    show Steps p.tables e below (T2.setTop (mkF m 11 #[.val (.ref ob), .val .null, .val .null, .val (.ref nm)] [.null, (.ref ob)])) _
    refine st6 _ ?_
    show Steps p.tables e below (T6.setTop (mkF m 14 #[.val (.ref ob), .val .null, .val .null, .val (.ref nm)] [])) _
    refine XS.aloadN X6.here hx rfl (hb hby d9_14) rfl rfl ?_
    show Steps p.tables e below (T6.setTop (mkF m 15 #[.val (.ref ob), .val .null, .val .null, .val (.ref nm)] [(.ref ob)])) _
    refine XS.aloadN X6.here hx rfl (hb hby d9_15) rfl rfl ?_
    show Steps p.tables e below (T6.setTop (mkF m 16 #[.val (.ref ob), .val .null, .val .null, .val (.ref nm)] [(.ref nm), (.ref ob)])) _
    refine st10 _ ?_
    exact k
  obtain ⟨fs, hrq, hrun, hended, hW, hsame⟩ := X10.leave (v := none) (fun _ => rfl)
  refine ⟨_, _, pre12 _ ?_, hrun, hended, _, _, rfl, ?_, ⟨_, rfl⟩, hW, hsame.mono (by decide) (by decide)⟩
  · show Steps p.tables e below (T10.setTop (mkF m 19 #[.val (.ref ob), .val .null, .val .null, .val (.ref nm)] [])) _
    exact X10.returnOut hx Bd.returns (hb hby d9_19) hrq
  · show QCI00 Z ob nm h0 n0 _ T10.heap _
    rw [e10]
    have c13 : Exa Z h10 ob "com/example/semijoin/semijoin/query/ColumnRef" := (c8.wr W10)
    have c14 : Fld Z h10 ob "com/example/semijoin/semijoin/query/ColumnRef" "schema" "Lcom/example/semijoin/semijoin/query/Identifier;" .null := ((Fw2.other W6 (Or.inr (slot_ne (a0 := a0) (Or.inr (hw _ (List.mem_of_getElem? (i := 63) rfl))) (Or.inr (hw _ (List.mem_of_getElem? (i := 65) rfl))) (by decide) (t := (.object "com/example/semijoin/semijoin/query/Identifier")) (t' := (.object "com/example/semijoin/semijoin/query/Identifier")) (by decide) (by decide)))).other W10 (Or.inr (slot_ne (a0 := a0) (Or.inr (hw _ (List.mem_of_getElem? (i := 63) rfl))) (Or.inr (hw _ (List.mem_of_getElem? (i := 67) rfl))) (by decide) (t := (.object "com/example/semijoin/semijoin/query/Identifier")) (t' := (.object "com/example/semijoin/semijoin/query/Identifier")) (by decide) (by decide))))
    have c15 : Fld Z h10 ob "com/example/semijoin/semijoin/query/ColumnRef" "qualifier" "Lcom/example/semijoin/semijoin/query/Identifier;" .null := (Fw6.other W10 (Or.inr (slot_ne (a0 := a0) (Or.inr (hw _ (List.mem_of_getElem? (i := 65) rfl))) (Or.inr (hw _ (List.mem_of_getElem? (i := 67) rfl))) (by decide) (t := (.object "com/example/semijoin/semijoin/query/Identifier")) (t' := (.object "com/example/semijoin/semijoin/query/Identifier")) (by decide) (by decide))))
    exact ⟨rfl, N10, K10, c13, c14, c15, Fw10⟩
theorem ef_rmCI01 (m : MethodId) (x0 : Addr) (x2 : Addr) (x3 : Addr) : entryFrame m #[(.ref x0), .null, (.ref x2), (.ref x3)] 4 = mkF m 0 #[.val (.ref x0), .val .null, .val (.ref x2), .val (.ref x3)] [] := by first | (simp [entryFrame, mkF, argsToLocals, Value.category]; done) | rfl
def QCI01 (Z : State) (ob : Addr) (qu : Addr) (nm : Addr) (h0 : Heap) (n0 : Nat) (v : Option Value) (h : Heap) (L : List Loc) : Prop := v = none ∧ Fr n0 L ∧ Keep h0 h [ob] ∧ Exa Z h ob "com/example/semijoin/semijoin/query/ColumnRef" ∧ Fld Z h ob "com/example/semijoin/semijoin/query/ColumnRef" "schema" "Lcom/example/semijoin/semijoin/query/Identifier;" .null ∧ Fld Z h ob "com/example/semijoin/semijoin/query/ColumnRef" "qualifier" "Lcom/example/semijoin/semijoin/query/Identifier;" (.ref qu) ∧ Fld Z h ob "com/example/semijoin/semijoin/query/ColumnRef" "name" "Lcom/example/semijoin/semijoin/query/Identifier;" (.ref nm)
set_option maxRecDepth 65536 in
set_option maxHeartbeats 40000000 in
theorem rmCI01 (l : Launch) (Z : State) (a0 : Array Value) (hw : ∀ d ∈ tables_1, d.before a0 Z = true) (ws : List Jvm.Cond) (ob : Addr) (qu : Addr) (nm : Addr) (h0 : Heap) (n0 : Nat) (Z0 : n0 ≤ h0.size) (E_ob : Exa Z h0 ob "com/example/semijoin/semijoin/query/ColumnRef") (F_schema : Fld Z h0 ob "com/example/semijoin/semijoin/query/ColumnRef" "schema" "Lcom/example/semijoin/semijoin/query/Identifier;" .null) (F_qualifier : Fld Z h0 ob "com/example/semijoin/semijoin/query/ColumnRef" "qualifier" "Lcom/example/semijoin/semijoin/query/Identifier;" .null) (F_name : Fld Z h0 ob "com/example/semijoin/semijoin/query/ColumnRef" "name" "Lcom/example/semijoin/semijoin/query/Identifier;" .null) (g_ob : n0 ≤ ob) :
    MetFree l (⟨"com/example/semijoin/semijoin/query/ColumnRef", "<init>", "(Lcom/example/semijoin/semijoin/query/Identifier;Lcom/example/semijoin/semijoin/query/Identifier;Lcom/example/semijoin/semijoin/query/Identifier;)V"⟩ : MethodName) (head1 (Jvm.Cond.code (⟨"com/example/semijoin/semijoin/query/ColumnRef", "<init>", "(Lcom/example/semijoin/semijoin/query/Identifier;Lcom/example/semijoin/semijoin/query/Identifier;Lcom/example/semijoin/semijoin/query/Identifier;)V"⟩ : MethodName) prog_65_method_2_code 4 none :: ws) ({ frames := 1, cells := 0, slots := 0, locals := 12 } : Room)) (fun a U => a = #[(.ref ob), .null, (.ref qu), (.ref nm)] ∧ Z.Warmed39 U.vm ∧ U.heap = h0) (fun _ _ _ _ _ => True) (fun _ U o U' => ∃ v L, o = .returned v ∧ QCI01 Z ob qu nm h0 n0 v U'.heap L ∧ FrameEnd U o U' L ({ frames := 1, cells := 0, slots := 0, locals := 12 } : Room).cells ({ frames := 1, cells := 0, slots := 0, locals := 12 } : Room).slots) := by
  refine MetFree.of_bodySF (plainFor_of_name pn_4) hisR ?_
  intro p e s0 m args below meth c s₁ Bd hml0 hP hK
  obtain ⟨rfl, hZ, hh⟩ := hP
  have hx := Bd.exec
  have hby := Bd.bytes
  have hml : c.maxLocals = 4 := hml0
  have hown : s0.vm.findClass "com/example/semijoin/semijoin/query/ColumnRef" = some m.cls := findClass_of_methodNamed Bd.named
  have hnm := (name_of_methodNamed Bd.named Bd.method).1
  have X0 : Stand p l e ({ frames := 1, cells := 0, slots := 0, locals := 12 } : Room) s0 m #[(.ref ob), .null, (.ref qu), (.ref nm)] below meth c s₁ [] 0 0 := Stand.of_body Bd
  have e0 : s₁.heap = h0 := by rw [← hh, Bd.state]; rfl
  have N0 := Fr.nil n0
  have pre0 : ∀ t, Steps p.tables e below (s₁.setTop (mkF m 0 #[.val (.ref ob), .val .null, .val (.ref qu), .val (.ref nm)] [])) t → Steps p.tables e below (s₁.setTop (entryFrame m #[(.ref ob), .null, (.ref qu), (.ref nm)] 4)) t := fun t k => castTop (ef_rmCI01 m ob qu nm) k
  obtain ⟨T1, X1, e1, st1⟩ := initO X0 hx hZ hown (hw _ (List.mem_of_getElem? (i := 61) rfl)) (hw _ (List.mem_of_getElem? (i := 10) rfl)) (hw _ (List.mem_of_getElem? (i := 11) rfl)) e0 (g := (mkF m 1 #[.val (.ref ob), .val .null, .val (.ref qu), .val (.ref nm)] [(.ref ob)])) rfl (by rw [hml]; rfl) rfl (hb hby d9_1) (by decide) (W := 0) (by show 2 * 0 + _ ≤ _; exact Nat.le_of_eq rfl) (by decide)
  obtain ⟨T2, h2, X2, e2, W2, st2⟩ := putF X1 hx hZ hown (host := "") (Or.inl (hw _ (List.mem_of_getElem? (i := 62) rfl))) Via.refl e1 F_schema E_ob (Or.inr ⟨(hw _ (List.mem_of_getElem? (i := 63) rfl)), rfl, hnm⟩) (hw _ (List.mem_of_getElem? (i := 56) rfl)) (ty := (.object "com/example/semijoin/semijoin/query/Identifier")) (by decide) rfl rfl (g := (mkF m 6 #[.val (.ref ob), .val .null, .val (.ref qu), .val (.ref nm)] [.null, (.ref ob)])) rfl rfl (hb hby d9_6)
  have Fw2 : Fld Z h2 ob "com/example/semijoin/semijoin/query/ColumnRef" "schema" "Lcom/example/semijoin/semijoin/query/Identifier;" .null := F_schema.same W2
  have Z3 : n0 ≤ h2.size := Nat.le_trans Z0 (Keep.of_wr W2).1
  have K2 : Keep h0 h2 [ob] := (Keep.refl h0 [ob]).wr W2 (Or.inl (List.mem_of_getElem? (i := 0) rfl))
  have N2 := Fr.snoc X2 N0 g_ob
  have c4 : Exa Z h2 ob "com/example/semijoin/semijoin/query/ColumnRef" := (E_ob.wr W2)
  have c5 : Fld Z h2 ob "com/example/semijoin/semijoin/query/ColumnRef" "qualifier" "Lcom/example/semijoin/semijoin/query/Identifier;" .null := (F_qualifier.other W2 (Or.inr (slot_ne (a0 := a0) (Or.inr (hw _ (List.mem_of_getElem? (i := 65) rfl))) (Or.inr (hw _ (List.mem_of_getElem? (i := 63) rfl))) (by decide) (t := (.object "com/example/semijoin/semijoin/query/Identifier")) (t' := (.object "com/example/semijoin/semijoin/query/Identifier")) (by decide) (by decide))))
  obtain ⟨T6, h6, X6, e6, W6, st6⟩ := putF X2 hx hZ hown (host := "") (Or.inl (hw _ (List.mem_of_getElem? (i := 64) rfl))) Via.refl e2 c5 c4 (Or.inr ⟨(hw _ (List.mem_of_getElem? (i := 65) rfl)), rfl, hnm⟩) (hw _ (List.mem_of_getElem? (i := 56) rfl)) (ty := (.object "com/example/semijoin/semijoin/query/Identifier")) (by decide) rfl rfl (g := (mkF m 11 #[.val (.ref ob), .val .null, .val (.ref qu), .val (.ref nm)] [(.ref qu), (.ref ob)])) rfl rfl (hb hby d9_11)
  have Fw6 : Fld Z h6 ob "com/example/semijoin/semijoin/query/ColumnRef" "qualifier" "Lcom/example/semijoin/semijoin/query/Identifier;" (.ref qu) := c5.same W6
  have Z7 : n0 ≤ h6.size := Nat.le_trans Z3 (Keep.of_wr W6).1
  have K6 : Keep h0 h6 [ob] := K2.wr W6 (Or.inl (List.mem_of_getElem? (i := 0) rfl))
  have N6 := Fr.snoc X6 N2 g_ob
  have c8 : Exa Z h6 ob "com/example/semijoin/semijoin/query/ColumnRef" := (c4.wr W6)
  have c9 : Fld Z h6 ob "com/example/semijoin/semijoin/query/ColumnRef" "name" "Lcom/example/semijoin/semijoin/query/Identifier;" .null := ((F_name.other W2 (Or.inr (slot_ne (a0 := a0) (Or.inr (hw _ (List.mem_of_getElem? (i := 67) rfl))) (Or.inr (hw _ (List.mem_of_getElem? (i := 63) rfl))) (by decide) (t := (.object "com/example/semijoin/semijoin/query/Identifier")) (t' := (.object "com/example/semijoin/semijoin/query/Identifier")) (by decide) (by decide)))).other W6 (Or.inr (slot_ne (a0 := a0) (Or.inr (hw _ (List.mem_of_getElem? (i := 67) rfl))) (Or.inr (hw _ (List.mem_of_getElem? (i := 65) rfl))) (by decide) (t := (.object "com/example/semijoin/semijoin/query/Identifier")) (t' := (.object "com/example/semijoin/semijoin/query/Identifier")) (by decide) (by decide))))
  obtain ⟨T10, h10, X10, e10, W10, st10⟩ := putF X6 hx hZ hown (host := "") (Or.inl (hw _ (List.mem_of_getElem? (i := 66) rfl))) Via.refl e6 c9 c8 (Or.inr ⟨(hw _ (List.mem_of_getElem? (i := 67) rfl)), rfl, hnm⟩) (hw _ (List.mem_of_getElem? (i := 56) rfl)) (ty := (.object "com/example/semijoin/semijoin/query/Identifier")) (by decide) rfl rfl (g := (mkF m 16 #[.val (.ref ob), .val .null, .val (.ref qu), .val (.ref nm)] [(.ref nm), (.ref ob)])) rfl rfl (hb hby d9_16)
  have Fw10 : Fld Z h10 ob "com/example/semijoin/semijoin/query/ColumnRef" "name" "Lcom/example/semijoin/semijoin/query/Identifier;" (.ref nm) := c9.same W10
  have Z11 : n0 ≤ h10.size := Nat.le_trans Z7 (Keep.of_wr W10).1
  have K10 : Keep h0 h10 [ob] := K6.wr W10 (Or.inl (List.mem_of_getElem? (i := 0) rfl))
  have N10 := Fr.snoc X10 N6 g_ob
  have pre12 : ∀ t, Steps p.tables e below (T10.setTop (mkF m 19 #[.val (.ref ob), .val .null, .val (.ref qu), .val (.ref nm)] [])) t → Steps p.tables e below (s₁.setTop (entryFrame m #[(.ref ob), .null, (.ref qu), (.ref nm)] 4)) t := fun t k => by
    refine pre0 t ?_
    show Steps p.tables e below (s₁.setTop (mkF m 0 #[.val (.ref ob), .val .null, .val (.ref qu), .val (.ref nm)] [])) _
    refine XS.aloadN X0.here hx rfl (hb hby d9_0) rfl rfl ?_
    show Steps p.tables e below (s₁.setTop (mkF m 1 #[.val (.ref ob), .val .null, .val (.ref qu), .val (.ref nm)] [(.ref ob)])) _
    refine st1 _ ?_
    show Steps p.tables e below (T1.setTop (mkF m 4 #[.val (.ref ob), .val .null, .val (.ref qu), .val (.ref nm)] [])) _
    refine XS.aloadN X1.here hx rfl (hb hby d9_4) rfl rfl ?_
    show Steps p.tables e below (T1.setTop (mkF m 5 #[.val (.ref ob), .val .null, .val (.ref qu), .val (.ref nm)] [(.ref ob)])) _
    refine XS.aloadN X1.here hx rfl (hb hby d9_5) rfl rfl ?_
    show Steps p.tables e below (T1.setTop (mkF m 6 #[.val (.ref ob), .val .null, .val (.ref qu), .val (.ref nm)] [.null, (.ref ob)])) _
    refine st2 _ ?_
    show Steps p.tables e below (T2.setTop (mkF m 9 #[.val (.ref ob), .val .null, .val (.ref qu), .val (.ref nm)] [])) _
    refine XS.aloadN X2.here hx rfl (hb hby d9_9) rfl rfl ?_
    show Steps p.tables e below (T2.setTop (mkF m 10 #[.val (.ref ob), .val .null, .val (.ref qu), .val (.ref nm)] [(.ref ob)])) _
    refine XS.aloadN X2.here hx rfl (hb hby d9_10) rfl rfl ?_
    show Steps p.tables e below (T2.setTop (mkF m 11 #[.val (.ref ob), .val .null, .val (.ref qu), .val (.ref nm)] [(.ref qu), (.ref ob)])) _
    refine st6 _ ?_
    show Steps p.tables e below (T6.setTop (mkF m 14 #[.val (.ref ob), .val .null, .val (.ref qu), .val (.ref nm)] [])) _
    refine XS.aloadN X6.here hx rfl (hb hby d9_14) rfl rfl ?_
    show Steps p.tables e below (T6.setTop (mkF m 15 #[.val (.ref ob), .val .null, .val (.ref qu), .val (.ref nm)] [(.ref ob)])) _
    refine XS.aloadN X6.here hx rfl (hb hby d9_15) rfl rfl ?_
    show Steps p.tables e below (T6.setTop (mkF m 16 #[.val (.ref ob), .val .null, .val (.ref qu), .val (.ref nm)] [(.ref nm), (.ref ob)])) _
    refine st10 _ ?_
    exact k
  obtain ⟨fs, hrq, hrun, hended, hW, hsame⟩ := X10.leave (v := none) (fun _ => rfl)
  refine ⟨_, _, pre12 _ ?_, hrun, hended, _, _, rfl, ?_, ⟨_, rfl⟩, hW, hsame.mono (by decide) (by decide)⟩
  · show Steps p.tables e below (T10.setTop (mkF m 19 #[.val (.ref ob), .val .null, .val (.ref qu), .val (.ref nm)] [])) _
    exact X10.returnOut hx Bd.returns (hb hby d9_19) hrq
  · show QCI01 Z ob qu nm h0 n0 _ T10.heap _
    rw [e10]
    have c13 : Exa Z h10 ob "com/example/semijoin/semijoin/query/ColumnRef" := (c8.wr W10)
    have c14 : Fld Z h10 ob "com/example/semijoin/semijoin/query/ColumnRef" "schema" "Lcom/example/semijoin/semijoin/query/Identifier;" .null := ((Fw2.other W6 (Or.inr (slot_ne (a0 := a0) (Or.inr (hw _ (List.mem_of_getElem? (i := 63) rfl))) (Or.inr (hw _ (List.mem_of_getElem? (i := 65) rfl))) (by decide) (t := (.object "com/example/semijoin/semijoin/query/Identifier")) (t' := (.object "com/example/semijoin/semijoin/query/Identifier")) (by decide) (by decide)))).other W10 (Or.inr (slot_ne (a0 := a0) (Or.inr (hw _ (List.mem_of_getElem? (i := 63) rfl))) (Or.inr (hw _ (List.mem_of_getElem? (i := 67) rfl))) (by decide) (t := (.object "com/example/semijoin/semijoin/query/Identifier")) (t' := (.object "com/example/semijoin/semijoin/query/Identifier")) (by decide) (by decide))))
    have c15 : Fld Z h10 ob "com/example/semijoin/semijoin/query/ColumnRef" "qualifier" "Lcom/example/semijoin/semijoin/query/Identifier;" (.ref qu) := (Fw6.other W10 (Or.inr (slot_ne (a0 := a0) (Or.inr (hw _ (List.mem_of_getElem? (i := 65) rfl))) (Or.inr (hw _ (List.mem_of_getElem? (i := 67) rfl))) (by decide) (t := (.object "com/example/semijoin/semijoin/query/Identifier")) (t' := (.object "com/example/semijoin/semijoin/query/Identifier")) (by decide) (by decide))))
    exact ⟨rfl, N10, K10, c13, c14, c15, Fw10⟩
theorem ef_rmCI10 (m : MethodId) (x0 : Addr) (x1 : Addr) (x3 : Addr) : entryFrame m #[(.ref x0), (.ref x1), .null, (.ref x3)] 4 = mkF m 0 #[.val (.ref x0), .val (.ref x1), .val .null, .val (.ref x3)] [] := by first | (simp [entryFrame, mkF, argsToLocals, Value.category]; done) | rfl
def QCI10 (Z : State) (ob : Addr) (sc : Addr) (nm : Addr) (h0 : Heap) (n0 : Nat) (v : Option Value) (h : Heap) (L : List Loc) : Prop := v = none ∧ Fr n0 L ∧ Keep h0 h [ob] ∧ Exa Z h ob "com/example/semijoin/semijoin/query/ColumnRef" ∧ Fld Z h ob "com/example/semijoin/semijoin/query/ColumnRef" "schema" "Lcom/example/semijoin/semijoin/query/Identifier;" (.ref sc) ∧ Fld Z h ob "com/example/semijoin/semijoin/query/ColumnRef" "qualifier" "Lcom/example/semijoin/semijoin/query/Identifier;" .null ∧ Fld Z h ob "com/example/semijoin/semijoin/query/ColumnRef" "name" "Lcom/example/semijoin/semijoin/query/Identifier;" (.ref nm)
set_option maxRecDepth 65536 in
set_option maxHeartbeats 40000000 in
theorem rmCI10 (l : Launch) (Z : State) (a0 : Array Value) (hw : ∀ d ∈ tables_1, d.before a0 Z = true) (ws : List Jvm.Cond) (ob : Addr) (sc : Addr) (nm : Addr) (h0 : Heap) (n0 : Nat) (Z0 : n0 ≤ h0.size) (E_ob : Exa Z h0 ob "com/example/semijoin/semijoin/query/ColumnRef") (F_schema : Fld Z h0 ob "com/example/semijoin/semijoin/query/ColumnRef" "schema" "Lcom/example/semijoin/semijoin/query/Identifier;" .null) (F_qualifier : Fld Z h0 ob "com/example/semijoin/semijoin/query/ColumnRef" "qualifier" "Lcom/example/semijoin/semijoin/query/Identifier;" .null) (F_name : Fld Z h0 ob "com/example/semijoin/semijoin/query/ColumnRef" "name" "Lcom/example/semijoin/semijoin/query/Identifier;" .null) (g_ob : n0 ≤ ob) :
    MetFree l (⟨"com/example/semijoin/semijoin/query/ColumnRef", "<init>", "(Lcom/example/semijoin/semijoin/query/Identifier;Lcom/example/semijoin/semijoin/query/Identifier;Lcom/example/semijoin/semijoin/query/Identifier;)V"⟩ : MethodName) (head1 (Jvm.Cond.code (⟨"com/example/semijoin/semijoin/query/ColumnRef", "<init>", "(Lcom/example/semijoin/semijoin/query/Identifier;Lcom/example/semijoin/semijoin/query/Identifier;Lcom/example/semijoin/semijoin/query/Identifier;)V"⟩ : MethodName) prog_65_method_2_code 4 none :: ws) ({ frames := 1, cells := 0, slots := 0, locals := 12 } : Room)) (fun a U => a = #[(.ref ob), (.ref sc), .null, (.ref nm)] ∧ Z.Warmed39 U.vm ∧ U.heap = h0) (fun _ _ _ _ _ => True) (fun _ U o U' => ∃ v L, o = .returned v ∧ QCI10 Z ob sc nm h0 n0 v U'.heap L ∧ FrameEnd U o U' L ({ frames := 1, cells := 0, slots := 0, locals := 12 } : Room).cells ({ frames := 1, cells := 0, slots := 0, locals := 12 } : Room).slots) := by
  refine MetFree.of_bodySF (plainFor_of_name pn_4) hisR ?_
  intro p e s0 m args below meth c s₁ Bd hml0 hP hK
  obtain ⟨rfl, hZ, hh⟩ := hP
  have hx := Bd.exec
  have hby := Bd.bytes
  have hml : c.maxLocals = 4 := hml0
  have hown : s0.vm.findClass "com/example/semijoin/semijoin/query/ColumnRef" = some m.cls := findClass_of_methodNamed Bd.named
  have hnm := (name_of_methodNamed Bd.named Bd.method).1
  have X0 : Stand p l e ({ frames := 1, cells := 0, slots := 0, locals := 12 } : Room) s0 m #[(.ref ob), (.ref sc), .null, (.ref nm)] below meth c s₁ [] 0 0 := Stand.of_body Bd
  have e0 : s₁.heap = h0 := by rw [← hh, Bd.state]; rfl
  have N0 := Fr.nil n0
  have pre0 : ∀ t, Steps p.tables e below (s₁.setTop (mkF m 0 #[.val (.ref ob), .val (.ref sc), .val .null, .val (.ref nm)] [])) t → Steps p.tables e below (s₁.setTop (entryFrame m #[(.ref ob), (.ref sc), .null, (.ref nm)] 4)) t := fun t k => castTop (ef_rmCI10 m ob sc nm) k
  obtain ⟨T1, X1, e1, st1⟩ := initO X0 hx hZ hown (hw _ (List.mem_of_getElem? (i := 61) rfl)) (hw _ (List.mem_of_getElem? (i := 10) rfl)) (hw _ (List.mem_of_getElem? (i := 11) rfl)) e0 (g := (mkF m 1 #[.val (.ref ob), .val (.ref sc), .val .null, .val (.ref nm)] [(.ref ob)])) rfl (by rw [hml]; rfl) rfl (hb hby d9_1) (by decide) (W := 0) (by show 2 * 0 + _ ≤ _; exact Nat.le_of_eq rfl) (by decide)
  obtain ⟨T2, h2, X2, e2, W2, st2⟩ := putF X1 hx hZ hown (host := "") (Or.inl (hw _ (List.mem_of_getElem? (i := 62) rfl))) Via.refl e1 F_schema E_ob (Or.inr ⟨(hw _ (List.mem_of_getElem? (i := 63) rfl)), rfl, hnm⟩) (hw _ (List.mem_of_getElem? (i := 56) rfl)) (ty := (.object "com/example/semijoin/semijoin/query/Identifier")) (by decide) rfl rfl (g := (mkF m 6 #[.val (.ref ob), .val (.ref sc), .val .null, .val (.ref nm)] [(.ref sc), (.ref ob)])) rfl rfl (hb hby d9_6)
  have Fw2 : Fld Z h2 ob "com/example/semijoin/semijoin/query/ColumnRef" "schema" "Lcom/example/semijoin/semijoin/query/Identifier;" (.ref sc) := F_schema.same W2
  have Z3 : n0 ≤ h2.size := Nat.le_trans Z0 (Keep.of_wr W2).1
  have K2 : Keep h0 h2 [ob] := (Keep.refl h0 [ob]).wr W2 (Or.inl (List.mem_of_getElem? (i := 0) rfl))
  have N2 := Fr.snoc X2 N0 g_ob
  have c4 : Exa Z h2 ob "com/example/semijoin/semijoin/query/ColumnRef" := (E_ob.wr W2)
  have c5 : Fld Z h2 ob "com/example/semijoin/semijoin/query/ColumnRef" "qualifier" "Lcom/example/semijoin/semijoin/query/Identifier;" .null := (F_qualifier.other W2 (Or.inr (slot_ne (a0 := a0) (Or.inr (hw _ (List.mem_of_getElem? (i := 65) rfl))) (Or.inr (hw _ (List.mem_of_getElem? (i := 63) rfl))) (by decide) (t := (.object "com/example/semijoin/semijoin/query/Identifier")) (t' := (.object "com/example/semijoin/semijoin/query/Identifier")) (by decide) (by decide))))
  obtain ⟨T6, h6, X6, e6, W6, st6⟩ := putF X2 hx hZ hown (host := "") (Or.inl (hw _ (List.mem_of_getElem? (i := 64) rfl))) Via.refl e2 c5 c4 (Or.inr ⟨(hw _ (List.mem_of_getElem? (i := 65) rfl)), rfl, hnm⟩) (hw _ (List.mem_of_getElem? (i := 56) rfl)) (ty := (.object "com/example/semijoin/semijoin/query/Identifier")) (by decide) rfl rfl (g := (mkF m 11 #[.val (.ref ob), .val (.ref sc), .val .null, .val (.ref nm)] [.null, (.ref ob)])) rfl rfl (hb hby d9_11)
  have Fw6 : Fld Z h6 ob "com/example/semijoin/semijoin/query/ColumnRef" "qualifier" "Lcom/example/semijoin/semijoin/query/Identifier;" .null := c5.same W6
  have Z7 : n0 ≤ h6.size := Nat.le_trans Z3 (Keep.of_wr W6).1
  have K6 : Keep h0 h6 [ob] := K2.wr W6 (Or.inl (List.mem_of_getElem? (i := 0) rfl))
  have N6 := Fr.snoc X6 N2 g_ob
  have c8 : Exa Z h6 ob "com/example/semijoin/semijoin/query/ColumnRef" := (c4.wr W6)
  have c9 : Fld Z h6 ob "com/example/semijoin/semijoin/query/ColumnRef" "name" "Lcom/example/semijoin/semijoin/query/Identifier;" .null := ((F_name.other W2 (Or.inr (slot_ne (a0 := a0) (Or.inr (hw _ (List.mem_of_getElem? (i := 67) rfl))) (Or.inr (hw _ (List.mem_of_getElem? (i := 63) rfl))) (by decide) (t := (.object "com/example/semijoin/semijoin/query/Identifier")) (t' := (.object "com/example/semijoin/semijoin/query/Identifier")) (by decide) (by decide)))).other W6 (Or.inr (slot_ne (a0 := a0) (Or.inr (hw _ (List.mem_of_getElem? (i := 67) rfl))) (Or.inr (hw _ (List.mem_of_getElem? (i := 65) rfl))) (by decide) (t := (.object "com/example/semijoin/semijoin/query/Identifier")) (t' := (.object "com/example/semijoin/semijoin/query/Identifier")) (by decide) (by decide))))
  obtain ⟨T10, h10, X10, e10, W10, st10⟩ := putF X6 hx hZ hown (host := "") (Or.inl (hw _ (List.mem_of_getElem? (i := 66) rfl))) Via.refl e6 c9 c8 (Or.inr ⟨(hw _ (List.mem_of_getElem? (i := 67) rfl)), rfl, hnm⟩) (hw _ (List.mem_of_getElem? (i := 56) rfl)) (ty := (.object "com/example/semijoin/semijoin/query/Identifier")) (by decide) rfl rfl (g := (mkF m 16 #[.val (.ref ob), .val (.ref sc), .val .null, .val (.ref nm)] [(.ref nm), (.ref ob)])) rfl rfl (hb hby d9_16)
  have Fw10 : Fld Z h10 ob "com/example/semijoin/semijoin/query/ColumnRef" "name" "Lcom/example/semijoin/semijoin/query/Identifier;" (.ref nm) := c9.same W10
  have Z11 : n0 ≤ h10.size := Nat.le_trans Z7 (Keep.of_wr W10).1
  have K10 : Keep h0 h10 [ob] := K6.wr W10 (Or.inl (List.mem_of_getElem? (i := 0) rfl))
  have N10 := Fr.snoc X10 N6 g_ob
  have pre12 : ∀ t, Steps p.tables e below (T10.setTop (mkF m 19 #[.val (.ref ob), .val (.ref sc), .val .null, .val (.ref nm)] [])) t → Steps p.tables e below (s₁.setTop (entryFrame m #[(.ref ob), (.ref sc), .null, (.ref nm)] 4)) t := fun t k => by
    refine pre0 t ?_
    show Steps p.tables e below (s₁.setTop (mkF m 0 #[.val (.ref ob), .val (.ref sc), .val .null, .val (.ref nm)] [])) _
    refine XS.aloadN X0.here hx rfl (hb hby d9_0) rfl rfl ?_
    show Steps p.tables e below (s₁.setTop (mkF m 1 #[.val (.ref ob), .val (.ref sc), .val .null, .val (.ref nm)] [(.ref ob)])) _
    refine st1 _ ?_
    show Steps p.tables e below (T1.setTop (mkF m 4 #[.val (.ref ob), .val (.ref sc), .val .null, .val (.ref nm)] [])) _
    refine XS.aloadN X1.here hx rfl (hb hby d9_4) rfl rfl ?_
    show Steps p.tables e below (T1.setTop (mkF m 5 #[.val (.ref ob), .val (.ref sc), .val .null, .val (.ref nm)] [(.ref ob)])) _
    refine XS.aloadN X1.here hx rfl (hb hby d9_5) rfl rfl ?_
    show Steps p.tables e below (T1.setTop (mkF m 6 #[.val (.ref ob), .val (.ref sc), .val .null, .val (.ref nm)] [(.ref sc), (.ref ob)])) _
    refine st2 _ ?_
    show Steps p.tables e below (T2.setTop (mkF m 9 #[.val (.ref ob), .val (.ref sc), .val .null, .val (.ref nm)] [])) _
    refine XS.aloadN X2.here hx rfl (hb hby d9_9) rfl rfl ?_
    show Steps p.tables e below (T2.setTop (mkF m 10 #[.val (.ref ob), .val (.ref sc), .val .null, .val (.ref nm)] [(.ref ob)])) _
    refine XS.aloadN X2.here hx rfl (hb hby d9_10) rfl rfl ?_
    show Steps p.tables e below (T2.setTop (mkF m 11 #[.val (.ref ob), .val (.ref sc), .val .null, .val (.ref nm)] [.null, (.ref ob)])) _
    refine st6 _ ?_
    show Steps p.tables e below (T6.setTop (mkF m 14 #[.val (.ref ob), .val (.ref sc), .val .null, .val (.ref nm)] [])) _
    refine XS.aloadN X6.here hx rfl (hb hby d9_14) rfl rfl ?_
    show Steps p.tables e below (T6.setTop (mkF m 15 #[.val (.ref ob), .val (.ref sc), .val .null, .val (.ref nm)] [(.ref ob)])) _
    refine XS.aloadN X6.here hx rfl (hb hby d9_15) rfl rfl ?_
    show Steps p.tables e below (T6.setTop (mkF m 16 #[.val (.ref ob), .val (.ref sc), .val .null, .val (.ref nm)] [(.ref nm), (.ref ob)])) _
    refine st10 _ ?_
    exact k
  obtain ⟨fs, hrq, hrun, hended, hW, hsame⟩ := X10.leave (v := none) (fun _ => rfl)
  refine ⟨_, _, pre12 _ ?_, hrun, hended, _, _, rfl, ?_, ⟨_, rfl⟩, hW, hsame.mono (by decide) (by decide)⟩
  · show Steps p.tables e below (T10.setTop (mkF m 19 #[.val (.ref ob), .val (.ref sc), .val .null, .val (.ref nm)] [])) _
    exact X10.returnOut hx Bd.returns (hb hby d9_19) hrq
  · show QCI10 Z ob sc nm h0 n0 _ T10.heap _
    rw [e10]
    have c13 : Exa Z h10 ob "com/example/semijoin/semijoin/query/ColumnRef" := (c8.wr W10)
    have c14 : Fld Z h10 ob "com/example/semijoin/semijoin/query/ColumnRef" "schema" "Lcom/example/semijoin/semijoin/query/Identifier;" (.ref sc) := ((Fw2.other W6 (Or.inr (slot_ne (a0 := a0) (Or.inr (hw _ (List.mem_of_getElem? (i := 63) rfl))) (Or.inr (hw _ (List.mem_of_getElem? (i := 65) rfl))) (by decide) (t := (.object "com/example/semijoin/semijoin/query/Identifier")) (t' := (.object "com/example/semijoin/semijoin/query/Identifier")) (by decide) (by decide)))).other W10 (Or.inr (slot_ne (a0 := a0) (Or.inr (hw _ (List.mem_of_getElem? (i := 63) rfl))) (Or.inr (hw _ (List.mem_of_getElem? (i := 67) rfl))) (by decide) (t := (.object "com/example/semijoin/semijoin/query/Identifier")) (t' := (.object "com/example/semijoin/semijoin/query/Identifier")) (by decide) (by decide))))
    have c15 : Fld Z h10 ob "com/example/semijoin/semijoin/query/ColumnRef" "qualifier" "Lcom/example/semijoin/semijoin/query/Identifier;" .null := (Fw6.other W10 (Or.inr (slot_ne (a0 := a0) (Or.inr (hw _ (List.mem_of_getElem? (i := 65) rfl))) (Or.inr (hw _ (List.mem_of_getElem? (i := 67) rfl))) (by decide) (t := (.object "com/example/semijoin/semijoin/query/Identifier")) (t' := (.object "com/example/semijoin/semijoin/query/Identifier")) (by decide) (by decide))))
    exact ⟨rfl, N10, K10, c13, c14, c15, Fw10⟩
theorem ef_rmCI11 (m : MethodId) (x0 : Addr) (x1 : Addr) (x2 : Addr) (x3 : Addr) : entryFrame m #[(.ref x0), (.ref x1), (.ref x2), (.ref x3)] 4 = mkF m 0 #[.val (.ref x0), .val (.ref x1), .val (.ref x2), .val (.ref x3)] [] := by first | (simp [entryFrame, mkF, argsToLocals, Value.category]; done) | rfl
def QCI11 (Z : State) (ob : Addr) (sc : Addr) (qu : Addr) (nm : Addr) (h0 : Heap) (n0 : Nat) (v : Option Value) (h : Heap) (L : List Loc) : Prop := v = none ∧ Fr n0 L ∧ Keep h0 h [ob] ∧ Exa Z h ob "com/example/semijoin/semijoin/query/ColumnRef" ∧ Fld Z h ob "com/example/semijoin/semijoin/query/ColumnRef" "schema" "Lcom/example/semijoin/semijoin/query/Identifier;" (.ref sc) ∧ Fld Z h ob "com/example/semijoin/semijoin/query/ColumnRef" "qualifier" "Lcom/example/semijoin/semijoin/query/Identifier;" (.ref qu) ∧ Fld Z h ob "com/example/semijoin/semijoin/query/ColumnRef" "name" "Lcom/example/semijoin/semijoin/query/Identifier;" (.ref nm)
set_option maxRecDepth 65536 in
set_option maxHeartbeats 40000000 in
theorem rmCI11 (l : Launch) (Z : State) (a0 : Array Value) (hw : ∀ d ∈ tables_1, d.before a0 Z = true) (ws : List Jvm.Cond) (ob : Addr) (sc : Addr) (qu : Addr) (nm : Addr) (h0 : Heap) (n0 : Nat) (Z0 : n0 ≤ h0.size) (E_ob : Exa Z h0 ob "com/example/semijoin/semijoin/query/ColumnRef") (F_schema : Fld Z h0 ob "com/example/semijoin/semijoin/query/ColumnRef" "schema" "Lcom/example/semijoin/semijoin/query/Identifier;" .null) (F_qualifier : Fld Z h0 ob "com/example/semijoin/semijoin/query/ColumnRef" "qualifier" "Lcom/example/semijoin/semijoin/query/Identifier;" .null) (F_name : Fld Z h0 ob "com/example/semijoin/semijoin/query/ColumnRef" "name" "Lcom/example/semijoin/semijoin/query/Identifier;" .null) (g_ob : n0 ≤ ob) :
    MetFree l (⟨"com/example/semijoin/semijoin/query/ColumnRef", "<init>", "(Lcom/example/semijoin/semijoin/query/Identifier;Lcom/example/semijoin/semijoin/query/Identifier;Lcom/example/semijoin/semijoin/query/Identifier;)V"⟩ : MethodName) (head1 (Jvm.Cond.code (⟨"com/example/semijoin/semijoin/query/ColumnRef", "<init>", "(Lcom/example/semijoin/semijoin/query/Identifier;Lcom/example/semijoin/semijoin/query/Identifier;Lcom/example/semijoin/semijoin/query/Identifier;)V"⟩ : MethodName) prog_65_method_2_code 4 none :: ws) ({ frames := 1, cells := 0, slots := 0, locals := 12 } : Room)) (fun a U => a = #[(.ref ob), (.ref sc), (.ref qu), (.ref nm)] ∧ Z.Warmed39 U.vm ∧ U.heap = h0) (fun _ _ _ _ _ => True) (fun _ U o U' => ∃ v L, o = .returned v ∧ QCI11 Z ob sc qu nm h0 n0 v U'.heap L ∧ FrameEnd U o U' L ({ frames := 1, cells := 0, slots := 0, locals := 12 } : Room).cells ({ frames := 1, cells := 0, slots := 0, locals := 12 } : Room).slots) := by
  refine MetFree.of_bodySF (plainFor_of_name pn_4) hisR ?_
  intro p e s0 m args below meth c s₁ Bd hml0 hP hK
  obtain ⟨rfl, hZ, hh⟩ := hP
  have hx := Bd.exec
  have hby := Bd.bytes
  have hml : c.maxLocals = 4 := hml0
  have hown : s0.vm.findClass "com/example/semijoin/semijoin/query/ColumnRef" = some m.cls := findClass_of_methodNamed Bd.named
  have hnm := (name_of_methodNamed Bd.named Bd.method).1
  have X0 : Stand p l e ({ frames := 1, cells := 0, slots := 0, locals := 12 } : Room) s0 m #[(.ref ob), (.ref sc), (.ref qu), (.ref nm)] below meth c s₁ [] 0 0 := Stand.of_body Bd
  have e0 : s₁.heap = h0 := by rw [← hh, Bd.state]; rfl
  have N0 := Fr.nil n0
  have pre0 : ∀ t, Steps p.tables e below (s₁.setTop (mkF m 0 #[.val (.ref ob), .val (.ref sc), .val (.ref qu), .val (.ref nm)] [])) t → Steps p.tables e below (s₁.setTop (entryFrame m #[(.ref ob), (.ref sc), (.ref qu), (.ref nm)] 4)) t := fun t k => castTop (ef_rmCI11 m ob sc qu nm) k
  obtain ⟨T1, X1, e1, st1⟩ := initO X0 hx hZ hown (hw _ (List.mem_of_getElem? (i := 61) rfl)) (hw _ (List.mem_of_getElem? (i := 10) rfl)) (hw _ (List.mem_of_getElem? (i := 11) rfl)) e0 (g := (mkF m 1 #[.val (.ref ob), .val (.ref sc), .val (.ref qu), .val (.ref nm)] [(.ref ob)])) rfl (by rw [hml]; rfl) rfl (hb hby d9_1) (by decide) (W := 0) (by show 2 * 0 + _ ≤ _; exact Nat.le_of_eq rfl) (by decide)
  obtain ⟨T2, h2, X2, e2, W2, st2⟩ := putF X1 hx hZ hown (host := "") (Or.inl (hw _ (List.mem_of_getElem? (i := 62) rfl))) Via.refl e1 F_schema E_ob (Or.inr ⟨(hw _ (List.mem_of_getElem? (i := 63) rfl)), rfl, hnm⟩) (hw _ (List.mem_of_getElem? (i := 56) rfl)) (ty := (.object "com/example/semijoin/semijoin/query/Identifier")) (by decide) rfl rfl (g := (mkF m 6 #[.val (.ref ob), .val (.ref sc), .val (.ref qu), .val (.ref nm)] [(.ref sc), (.ref ob)])) rfl rfl (hb hby d9_6)
  have Fw2 : Fld Z h2 ob "com/example/semijoin/semijoin/query/ColumnRef" "schema" "Lcom/example/semijoin/semijoin/query/Identifier;" (.ref sc) := F_schema.same W2
  have Z3 : n0 ≤ h2.size := Nat.le_trans Z0 (Keep.of_wr W2).1
  have K2 : Keep h0 h2 [ob] := (Keep.refl h0 [ob]).wr W2 (Or.inl (List.mem_of_getElem? (i := 0) rfl))
  have N2 := Fr.snoc X2 N0 g_ob
  have c4 : Exa Z h2 ob "com/example/semijoin/semijoin/query/ColumnRef" := (E_ob.wr W2)
  have c5 : Fld Z h2 ob "com/example/semijoin/semijoin/query/ColumnRef" "qualifier" "Lcom/example/semijoin/semijoin/query/Identifier;" .null := (F_qualifier.other W2 (Or.inr (slot_ne (a0 := a0) (Or.inr (hw _ (List.mem_of_getElem? (i := 65) rfl))) (Or.inr (hw _ (List.mem_of_getElem? (i := 63) rfl))) (by decide) (t := (.object "com/example/semijoin/semijoin/query/Identifier")) (t' := (.object "com/example/semijoin/semijoin/query/Identifier")) (by decide) (by decide))))
  obtain ⟨T6, h6, X6, e6, W6, st6⟩ := putF X2 hx hZ hown (host := "") (Or.inl (hw _ (List.mem_of_getElem? (i := 64) rfl))) Via.refl e2 c5 c4 (Or.inr ⟨(hw _ (List.mem_of_getElem? (i := 65) rfl)), rfl, hnm⟩) (hw _ (List.mem_of_getElem? (i := 56) rfl)) (ty := (.object "com/example/semijoin/semijoin/query/Identifier")) (by decide) rfl rfl (g := (mkF m 11 #[.val (.ref ob), .val (.ref sc), .val (.ref qu), .val (.ref nm)] [(.ref qu), (.ref ob)])) rfl rfl (hb hby d9_11)
  have Fw6 : Fld Z h6 ob "com/example/semijoin/semijoin/query/ColumnRef" "qualifier" "Lcom/example/semijoin/semijoin/query/Identifier;" (.ref qu) := c5.same W6
  have Z7 : n0 ≤ h6.size := Nat.le_trans Z3 (Keep.of_wr W6).1
  have K6 : Keep h0 h6 [ob] := K2.wr W6 (Or.inl (List.mem_of_getElem? (i := 0) rfl))
  have N6 := Fr.snoc X6 N2 g_ob
  have c8 : Exa Z h6 ob "com/example/semijoin/semijoin/query/ColumnRef" := (c4.wr W6)
  have c9 : Fld Z h6 ob "com/example/semijoin/semijoin/query/ColumnRef" "name" "Lcom/example/semijoin/semijoin/query/Identifier;" .null := ((F_name.other W2 (Or.inr (slot_ne (a0 := a0) (Or.inr (hw _ (List.mem_of_getElem? (i := 67) rfl))) (Or.inr (hw _ (List.mem_of_getElem? (i := 63) rfl))) (by decide) (t := (.object "com/example/semijoin/semijoin/query/Identifier")) (t' := (.object "com/example/semijoin/semijoin/query/Identifier")) (by decide) (by decide)))).other W6 (Or.inr (slot_ne (a0 := a0) (Or.inr (hw _ (List.mem_of_getElem? (i := 67) rfl))) (Or.inr (hw _ (List.mem_of_getElem? (i := 65) rfl))) (by decide) (t := (.object "com/example/semijoin/semijoin/query/Identifier")) (t' := (.object "com/example/semijoin/semijoin/query/Identifier")) (by decide) (by decide))))
  obtain ⟨T10, h10, X10, e10, W10, st10⟩ := putF X6 hx hZ hown (host := "") (Or.inl (hw _ (List.mem_of_getElem? (i := 66) rfl))) Via.refl e6 c9 c8 (Or.inr ⟨(hw _ (List.mem_of_getElem? (i := 67) rfl)), rfl, hnm⟩) (hw _ (List.mem_of_getElem? (i := 56) rfl)) (ty := (.object "com/example/semijoin/semijoin/query/Identifier")) (by decide) rfl rfl (g := (mkF m 16 #[.val (.ref ob), .val (.ref sc), .val (.ref qu), .val (.ref nm)] [(.ref nm), (.ref ob)])) rfl rfl (hb hby d9_16)
  have Fw10 : Fld Z h10 ob "com/example/semijoin/semijoin/query/ColumnRef" "name" "Lcom/example/semijoin/semijoin/query/Identifier;" (.ref nm) := c9.same W10
  have Z11 : n0 ≤ h10.size := Nat.le_trans Z7 (Keep.of_wr W10).1
  have K10 : Keep h0 h10 [ob] := K6.wr W10 (Or.inl (List.mem_of_getElem? (i := 0) rfl))
  have N10 := Fr.snoc X10 N6 g_ob
  have pre12 : ∀ t, Steps p.tables e below (T10.setTop (mkF m 19 #[.val (.ref ob), .val (.ref sc), .val (.ref qu), .val (.ref nm)] [])) t → Steps p.tables e below (s₁.setTop (entryFrame m #[(.ref ob), (.ref sc), (.ref qu), (.ref nm)] 4)) t := fun t k => by
    refine pre0 t ?_
    show Steps p.tables e below (s₁.setTop (mkF m 0 #[.val (.ref ob), .val (.ref sc), .val (.ref qu), .val (.ref nm)] [])) _
    refine XS.aloadN X0.here hx rfl (hb hby d9_0) rfl rfl ?_
    show Steps p.tables e below (s₁.setTop (mkF m 1 #[.val (.ref ob), .val (.ref sc), .val (.ref qu), .val (.ref nm)] [(.ref ob)])) _
    refine st1 _ ?_
    show Steps p.tables e below (T1.setTop (mkF m 4 #[.val (.ref ob), .val (.ref sc), .val (.ref qu), .val (.ref nm)] [])) _
    refine XS.aloadN X1.here hx rfl (hb hby d9_4) rfl rfl ?_
    show Steps p.tables e below (T1.setTop (mkF m 5 #[.val (.ref ob), .val (.ref sc), .val (.ref qu), .val (.ref nm)] [(.ref ob)])) _
    refine XS.aloadN X1.here hx rfl (hb hby d9_5) rfl rfl ?_
    show Steps p.tables e below (T1.setTop (mkF m 6 #[.val (.ref ob), .val (.ref sc), .val (.ref qu), .val (.ref nm)] [(.ref sc), (.ref ob)])) _
    refine st2 _ ?_
    show Steps p.tables e below (T2.setTop (mkF m 9 #[.val (.ref ob), .val (.ref sc), .val (.ref qu), .val (.ref nm)] [])) _
    refine XS.aloadN X2.here hx rfl (hb hby d9_9) rfl rfl ?_
    show Steps p.tables e below (T2.setTop (mkF m 10 #[.val (.ref ob), .val (.ref sc), .val (.ref qu), .val (.ref nm)] [(.ref ob)])) _
    refine XS.aloadN X2.here hx rfl (hb hby d9_10) rfl rfl ?_
    show Steps p.tables e below (T2.setTop (mkF m 11 #[.val (.ref ob), .val (.ref sc), .val (.ref qu), .val (.ref nm)] [(.ref qu), (.ref ob)])) _
    refine st6 _ ?_
    show Steps p.tables e below (T6.setTop (mkF m 14 #[.val (.ref ob), .val (.ref sc), .val (.ref qu), .val (.ref nm)] [])) _
    refine XS.aloadN X6.here hx rfl (hb hby d9_14) rfl rfl ?_
    show Steps p.tables e below (T6.setTop (mkF m 15 #[.val (.ref ob), .val (.ref sc), .val (.ref qu), .val (.ref nm)] [(.ref ob)])) _
    refine XS.aloadN X6.here hx rfl (hb hby d9_15) rfl rfl ?_
    show Steps p.tables e below (T6.setTop (mkF m 16 #[.val (.ref ob), .val (.ref sc), .val (.ref qu), .val (.ref nm)] [(.ref nm), (.ref ob)])) _
    refine st10 _ ?_
    exact k
  obtain ⟨fs, hrq, hrun, hended, hW, hsame⟩ := X10.leave (v := none) (fun _ => rfl)
  refine ⟨_, _, pre12 _ ?_, hrun, hended, _, _, rfl, ?_, ⟨_, rfl⟩, hW, hsame.mono (by decide) (by decide)⟩
  · show Steps p.tables e below (T10.setTop (mkF m 19 #[.val (.ref ob), .val (.ref sc), .val (.ref qu), .val (.ref nm)] [])) _
    exact X10.returnOut hx Bd.returns (hb hby d9_19) hrq
  · show QCI11 Z ob sc qu nm h0 n0 _ T10.heap _
    rw [e10]
    have c13 : Exa Z h10 ob "com/example/semijoin/semijoin/query/ColumnRef" := (c8.wr W10)
    have c14 : Fld Z h10 ob "com/example/semijoin/semijoin/query/ColumnRef" "schema" "Lcom/example/semijoin/semijoin/query/Identifier;" (.ref sc) := ((Fw2.other W6 (Or.inr (slot_ne (a0 := a0) (Or.inr (hw _ (List.mem_of_getElem? (i := 63) rfl))) (Or.inr (hw _ (List.mem_of_getElem? (i := 65) rfl))) (by decide) (t := (.object "com/example/semijoin/semijoin/query/Identifier")) (t' := (.object "com/example/semijoin/semijoin/query/Identifier")) (by decide) (by decide)))).other W10 (Or.inr (slot_ne (a0 := a0) (Or.inr (hw _ (List.mem_of_getElem? (i := 63) rfl))) (Or.inr (hw _ (List.mem_of_getElem? (i := 67) rfl))) (by decide) (t := (.object "com/example/semijoin/semijoin/query/Identifier")) (t' := (.object "com/example/semijoin/semijoin/query/Identifier")) (by decide) (by decide))))
    have c15 : Fld Z h10 ob "com/example/semijoin/semijoin/query/ColumnRef" "qualifier" "Lcom/example/semijoin/semijoin/query/Identifier;" (.ref qu) := (Fw6.other W10 (Or.inr (slot_ne (a0 := a0) (Or.inr (hw _ (List.mem_of_getElem? (i := 65) rfl))) (Or.inr (hw _ (List.mem_of_getElem? (i := 67) rfl))) (by decide) (t := (.object "com/example/semijoin/semijoin/query/Identifier")) (t' := (.object "com/example/semijoin/semijoin/query/Identifier")) (by decide) (by decide))))
    exact ⟨rfl, N10, K10, c13, c14, c15, Fw10⟩
theorem pd_4 : parseMethodDescriptor "()Lcom/example/semijoin/semijoin/query/Position;" = some ⟨[], some (.object "com/example/semijoin/semijoin/query/Position")⟩ := by decide +kernel
theorem d10_0 : decode prog_65_method_6_code 0 = .ok (.aload_n 0, 1) := by decide +kernel
theorem d10_1 : decode prog_65_method_6_code 1 = .ok (.getfield 19, 3) := by decide +kernel
theorem d10_4 : decode prog_65_method_6_code 4 = .ok (.invokevirtual 22, 3) := by decide +kernel
theorem d10_7 : decode prog_65_method_6_code 7 = .ok (.astore_n 1, 1) := by decide +kernel
theorem d10_8 : decode prog_65_method_6_code 8 = .ok (.aload_n 0, 1) := by decide +kernel
theorem d10_9 : decode prog_65_method_6_code 9 = .ok (.getfield 12, 3) := by decide +kernel
theorem d10_12 : decode prog_65_method_6_code 12 = .ok (.ifnull 14, 3) := by decide +kernel
theorem d10_15 : decode prog_65_method_6_code 15 = .ok (.aload_n 0, 1) := by decide +kernel
theorem d10_16 : decode prog_65_method_6_code 16 = .ok (.getfield 12, 3) := by decide +kernel
theorem d10_19 : decode prog_65_method_6_code 19 = .ok (.invokevirtual 22, 3) := by decide +kernel
theorem d10_22 : decode prog_65_method_6_code 22 = .ok (.astore_n 1, 1) := by decide +kernel
theorem d10_23 : decode prog_65_method_6_code 23 = .ok (.goto 18, 3) := by decide +kernel
theorem d10_41 : decode prog_65_method_6_code 41 = .ok (.aload_n 1, 1) := by decide +kernel
theorem d10_42 : decode prog_65_method_6_code 42 = .ok (.areturn, 1) := by decide +kernel
theorem ef_rmCG1 (m : MethodId) (x0 : Addr) : entryFrame m #[(.ref x0)] 2 = mkF m 0 #[.val (.ref x0), .unset] [] := by first | (simp [entryFrame, mkF, argsToLocals, Value.category]; done) | rfl
def QCG1 (Z : State) (ob : Addr) (sc nm po_sc po_nm : Addr) (h0 : Heap) (n0 : Nat) (v : Option Value) (h : Heap) (L : List Loc) : Prop := v = some (.ref po_sc) ∧ Fr n0 L ∧ h = h0
set_option maxRecDepth 65536 in
set_option maxHeartbeats 40000000 in
theorem rmCG1 (l : Launch) (Z : State) (a0 : Array Value) (hw : ∀ d ∈ tables_1, d.before a0 Z = true) (ws : List Jvm.Cond) (ob : Addr) (sc nm po_sc po_nm : Addr) (h0 : Heap) (n0 : Nat) (Z0 : n0 ≤ h0.size) (F_name : Fld Z h0 ob "com/example/semijoin/semijoin/query/ColumnRef" "name" "Lcom/example/semijoin/semijoin/query/Identifier;" (.ref nm)) (F_schema : Fld Z h0 ob "com/example/semijoin/semijoin/query/ColumnRef" "schema" "Lcom/example/semijoin/semijoin/query/Identifier;" (.ref sc)) (E_sc : Exa Z h0 sc "com/example/semijoin/semijoin/query/Identifier") (E_nm : Exa Z h0 nm "com/example/semijoin/semijoin/query/Identifier") (G_sc : Fld Z h0 sc "com/example/semijoin/semijoin/query/Identifier" "position" "Lcom/example/semijoin/semijoin/query/Position;" (.ref po_sc)) (G_nm : Fld Z h0 nm "com/example/semijoin/semijoin/query/Identifier" "position" "Lcom/example/semijoin/semijoin/query/Position;" (.ref po_nm)) :
    MetFree l (⟨"com/example/semijoin/semijoin/query/ColumnRef", "getPosition", "()Lcom/example/semijoin/semijoin/query/Position;"⟩ : MethodName) (head1 (Jvm.Cond.code (⟨"com/example/semijoin/semijoin/query/ColumnRef", "getPosition", "()Lcom/example/semijoin/semijoin/query/Position;"⟩ : MethodName) prog_65_method_6_code 2 (some (.object "com/example/semijoin/semijoin/query/Position")) :: ws) ({ frames := 1, cells := 0, slots := 0, locals := 12 } : Room)) (fun a U => a = #[(.ref ob)] ∧ Z.Warmed39 U.vm ∧ U.heap = h0) (fun _ _ _ _ _ => True) (fun _ U o U' => ∃ v L, o = .returned v ∧ QCG1 Z ob sc nm po_sc po_nm h0 n0 v U'.heap L ∧ FrameEnd U o U' L ({ frames := 1, cells := 0, slots := 0, locals := 12 } : Room).cells ({ frames := 1, cells := 0, slots := 0, locals := 12 } : Room).slots) := by
  refine MetFree.of_bodySF (plainFor_of_name pn_4) hisR ?_
  intro p e s0 m args below meth c s₁ Bd hml0 hP hK
  obtain ⟨rfl, hZ, hh⟩ := hP
  have hx := Bd.exec
  have hby := Bd.bytes
  have hml : c.maxLocals = 2 := hml0
  have hown : s0.vm.findClass "com/example/semijoin/semijoin/query/ColumnRef" = some m.cls := findClass_of_methodNamed Bd.named
  have hnm := (name_of_methodNamed Bd.named Bd.method).1
  have X0 : Stand p l e ({ frames := 1, cells := 0, slots := 0, locals := 12 } : Room) s0 m #[(.ref ob)] below meth c s₁ [] 0 0 := Stand.of_body Bd
  have e0 : s₁.heap = h0 := by rw [← hh, Bd.state]; rfl
  have N0 := Fr.nil n0
  have pre0 : ∀ t, Steps p.tables e below (s₁.setTop (mkF m 0 #[.val (.ref ob), .unset] [])) t → Steps p.tables e below (s₁.setTop (entryFrame m #[(.ref ob)] 2)) t := fun t k => castTop (ef_rmCG1 m ob) k
  obtain ⟨T1, X1, e1, st1⟩ := getF X0 hx hZ hown (host := "") (Or.inl (hw _ (List.mem_of_getElem? (i := 66) rfl))) Via.refl e0 F_name (g := (mkF m 1 #[.val (.ref ob), .unset] [(.ref ob)])) rfl rfl (hb hby d10_1)
  obtain ⟨cq2, kq2, q2a, q2b, q2c⟩ := isOf hZ e1 E_nm
  obtain ⟨_, _, ⟨T2, L2, k2, n2⟩, -, X2, ⟨Lc2, hQ2, l2, y2, z2⟩, st2⟩ := X1.virtualBack hx (y := (⟨"com/example/semijoin/semijoin/query/Identifier", "getPosition", "()Lcom/example/semijoin/semijoin/query/Position;"⟩ : MethodName)) (z := (⟨"com/example/semijoin/semijoin/query/Identifier", "getPosition", "()Lcom/example/semijoin/semijoin/query/Position;"⟩ : MethodName)) hown (mvT hZ (hw _ (List.mem_of_getElem? (i := 73) rfl))) (mvT hZ (hw _ (List.mem_of_getElem? (i := 74) rfl))) (notFace_of_selects (args := #[]) (mvT hZ (hw _ (List.mem_of_getElem? (i := 76) rfl)))) (mvT hZ (hw _ (List.mem_of_getElem? (i := 76) rfl))) (mvT hZ (hw _ (List.mem_of_getElem? (i := 75) rfl))) (by decide) (backOf (W := 0) (rmIG l Z a0 hw [] nm po_nm h0 n0 Z0 G_nm) hZ (hw _ (List.mem_of_getElem? (i := 77) rfl)) (hw _ (List.mem_of_getElem? (i := 20) rfl)) (by decide) (by decide)) q2a q2c (g := (mkF m 4 #[.val (.ref ob), .unset] [(.ref nm)])) rfl (by rw [hml]; rfl) (Steps.refl _) (argsL := []) (rest := []) (lenOf pd_4 rfl) rfl (by show 2 * 0 + _ ≤ _; exact Nat.le_of_eq rfl) (hb hby d10_4) (fun _ _ => ⟨rfl, e1, (by decide : 0 + 0 ≤ _), (by decide : 0 + 0 ≤ _)⟩)
  dsimp only [Pt.U, Pt.locs, Pt.cells, Pt.slots] at X2 l2 y2 z2 st2 hQ2
  subst l2 y2 z2
  obtain ⟨rfl, Nq2, hh2⟩ := hQ2
  have N2 := Fr.app N0 Nq2
  have e2 : T2.heap = h0 := hh2
  obtain ⟨T3, X3, e3, st3⟩ := getF X2 hx hZ hown (host := "") (Or.inl (hw _ (List.mem_of_getElem? (i := 62) rfl))) Via.refl e2 F_schema (g := (mkF m 9 #[.val (.ref ob), .val (.ref po_nm)] [(.ref ob)])) rfl rfl (hb hby d10_9)
  obtain ⟨T4, X4, e4, st4⟩ := getF X3 hx hZ hown (host := "") (Or.inl (hw _ (List.mem_of_getElem? (i := 62) rfl))) Via.refl e3 F_schema (g := (mkF m 16 #[.val (.ref ob), .val (.ref po_nm)] [(.ref ob)])) rfl rfl (hb hby d10_16)
  obtain ⟨cq5, kq5, q5a, q5b, q5c⟩ := isOf hZ e4 E_sc
  obtain ⟨_, _, ⟨T5, L5, k5, n5⟩, -, X5, ⟨Lc5, hQ5, l5, y5, z5⟩, st5⟩ := X4.virtualBack hx (y := (⟨"com/example/semijoin/semijoin/query/Identifier", "getPosition", "()Lcom/example/semijoin/semijoin/query/Position;"⟩ : MethodName)) (z := (⟨"com/example/semijoin/semijoin/query/Identifier", "getPosition", "()Lcom/example/semijoin/semijoin/query/Position;"⟩ : MethodName)) hown (mvT hZ (hw _ (List.mem_of_getElem? (i := 73) rfl))) (mvT hZ (hw _ (List.mem_of_getElem? (i := 74) rfl))) (notFace_of_selects (args := #[]) (mvT hZ (hw _ (List.mem_of_getElem? (i := 76) rfl)))) (mvT hZ (hw _ (List.mem_of_getElem? (i := 76) rfl))) (mvT hZ (hw _ (List.mem_of_getElem? (i := 75) rfl))) (by decide) (backOf (W := 0) (rmIG l Z a0 hw [] sc po_sc h0 n0 Z0 G_sc) hZ (hw _ (List.mem_of_getElem? (i := 77) rfl)) (hw _ (List.mem_of_getElem? (i := 20) rfl)) (by decide) (by decide)) q5a q5c (g := (mkF m 19 #[.val (.ref ob), .val (.ref po_nm)] [(.ref sc)])) rfl (by rw [hml]; rfl) (Steps.refl _) (argsL := []) (rest := []) (lenOf pd_4 rfl) rfl (by show 2 * 0 + _ ≤ _; exact Nat.le_of_eq rfl) (hb hby d10_19) (fun _ _ => ⟨rfl, e4, (by decide : 0 + 0 ≤ _), (by decide : 0 + 0 ≤ _)⟩)
  dsimp only [Pt.U, Pt.locs, Pt.cells, Pt.slots] at X5 l5 y5 z5 st5 hQ5
  subst l5 y5 z5
  obtain ⟨rfl, Nq5, hh5⟩ := hQ5
  have N5 := Fr.app N2 Nq5
  have e5 : T5.heap = h0 := hh5
  have pre6 : ∀ t, Steps p.tables e below (T5.setTop (mkF m 42 #[.val (.ref ob), .val (.ref po_sc)] [(.ref po_sc)])) t → Steps p.tables e below (s₁.setTop (entryFrame m #[(.ref ob)] 2)) t := fun t k => by
    refine pre0 t ?_
    show Steps p.tables e below (s₁.setTop (mkF m 0 #[.val (.ref ob), .unset] [])) _
    refine XS.aloadN X0.here hx rfl (hb hby d10_0) rfl rfl ?_
    show Steps p.tables e below (s₁.setTop (mkF m 1 #[.val (.ref ob), .unset] [(.ref ob)])) _
    refine st1 _ ?_
    show Steps p.tables e below (T1.setTop (mkF m 4 #[.val (.ref ob), .unset] [(.ref nm)])) _
    refine st2.trans ?_
    show Steps p.tables e below (T2.setTop (mkF m 7 #[.val (.ref ob), .unset] [(.ref po_nm)])) _
    refine XS.astoreN X2.here hx rfl (hb hby d10_7) rfl rfl (l' := #[.val (.ref ob), .val (.ref po_nm)]) rfl ?_
    show Steps p.tables e below (T2.setTop (mkF m 8 #[.val (.ref ob), .val (.ref po_nm)] [])) _
    refine XS.aloadN X2.here hx rfl (hb hby d10_8) rfl rfl ?_
    show Steps p.tables e below (T2.setTop (mkF m 9 #[.val (.ref ob), .val (.ref po_nm)] [(.ref ob)])) _
    refine st3 _ ?_
    show Steps p.tables e below (T3.setTop (mkF m 12 #[.val (.ref ob), .val (.ref po_nm)] [(.ref sc)])) _
    refine XS.ifnullNo X3.here hx rfl (hb hby d10_12) rfl ?_
    show Steps p.tables e below (T3.setTop (mkF m 15 #[.val (.ref ob), .val (.ref po_nm)] [])) _
    refine XS.aloadN X3.here hx rfl (hb hby d10_15) rfl rfl ?_
    show Steps p.tables e below (T3.setTop (mkF m 16 #[.val (.ref ob), .val (.ref po_nm)] [(.ref ob)])) _
    refine st4 _ ?_
    show Steps p.tables e below (T4.setTop (mkF m 19 #[.val (.ref ob), .val (.ref po_nm)] [(.ref sc)])) _
    refine st5.trans ?_
    show Steps p.tables e below (T5.setTop (mkF m 22 #[.val (.ref ob), .val (.ref po_nm)] [(.ref po_sc)])) _
    refine XS.astoreN X5.here hx rfl (hb hby d10_22) rfl rfl (l' := #[.val (.ref ob), .val (.ref po_sc)]) rfl ?_
    show Steps p.tables e below (T5.setTop (mkF m 23 #[.val (.ref ob), .val (.ref po_sc)] [])) _
    refine XS.goto X5.here hx rfl (pc0 := 23) (pc' := 41) rfl (hb hby d10_23) (by decide) (by decide) ?_
    show Steps p.tables e below (T5.setTop (mkF m 41 #[.val (.ref ob), .val (.ref po_sc)] [])) _
    refine XS.aloadN X5.here hx rfl (hb hby d10_41) rfl rfl ?_
    exact k
  obtain ⟨fs, hrq, hrun, hended, hW, hsame⟩ := X5.leave (v := some (.ref po_sc)) (fun h => by rw [Bd.returns] at h; cases h)
  refine ⟨_, _, pre6 _ ?_, hrun, hended, _, _, rfl, ?_, ⟨_, rfl⟩, hW, hsame.mono (by decide) (by decide)⟩
  · show Steps p.tables e below (T5.setTop (mkF m 42 #[.val (.ref ob), .val (.ref po_sc)] [(.ref po_sc)])) _
    exact retOut X5 hx Bd.returns rfl (Or.inr (Or.inr (Or.inr (Or.inr ⟨rfl, rfl, rfl⟩)))) (hb hby d10_42) hrq
  · show QCG1 Z ob sc nm po_sc po_nm h0 n0 _ T5.heap _
    rw [e5]
    exact ⟨rfl, N5, rfl⟩
theorem d10_26 : decode prog_65_method_6_code 26 = .ok (.aload_n 0, 1) := by decide +kernel
theorem d10_27 : decode prog_65_method_6_code 27 = .ok (.getfield 16, 3) := by decide +kernel
theorem d10_30 : decode prog_65_method_6_code 30 = .ok (.ifnull 11, 3) := by decide +kernel
theorem d10_33 : decode prog_65_method_6_code 33 = .ok (.aload_n 0, 1) := by decide +kernel
theorem d10_34 : decode prog_65_method_6_code 34 = .ok (.getfield 16, 3) := by decide +kernel
theorem d10_37 : decode prog_65_method_6_code 37 = .ok (.invokevirtual 22, 3) := by decide +kernel
theorem d10_40 : decode prog_65_method_6_code 40 = .ok (.astore_n 1, 1) := by decide +kernel
theorem ef_rmCG2 (m : MethodId) (x0 : Addr) : entryFrame m #[(.ref x0)] 2 = mkF m 0 #[.val (.ref x0), .unset] [] := by first | (simp [entryFrame, mkF, argsToLocals, Value.category]; done) | rfl
def QCG2 (Z : State) (ob : Addr) (qu nm po_qu po_nm : Addr) (h0 : Heap) (n0 : Nat) (v : Option Value) (h : Heap) (L : List Loc) : Prop := v = some (.ref po_qu) ∧ Fr n0 L ∧ h = h0
set_option maxRecDepth 65536 in
set_option maxHeartbeats 40000000 in
theorem rmCG2 (l : Launch) (Z : State) (a0 : Array Value) (hw : ∀ d ∈ tables_1, d.before a0 Z = true) (ws : List Jvm.Cond) (ob : Addr) (qu nm po_qu po_nm : Addr) (h0 : Heap) (n0 : Nat) (Z0 : n0 ≤ h0.size) (F_name : Fld Z h0 ob "com/example/semijoin/semijoin/query/ColumnRef" "name" "Lcom/example/semijoin/semijoin/query/Identifier;" (.ref nm)) (F_schema : Fld Z h0 ob "com/example/semijoin/semijoin/query/ColumnRef" "schema" "Lcom/example/semijoin/semijoin/query/Identifier;" .null) (F_qualifier : Fld Z h0 ob "com/example/semijoin/semijoin/query/ColumnRef" "qualifier" "Lcom/example/semijoin/semijoin/query/Identifier;" (.ref qu)) (E_qu : Exa Z h0 qu "com/example/semijoin/semijoin/query/Identifier") (E_nm : Exa Z h0 nm "com/example/semijoin/semijoin/query/Identifier") (G_qu : Fld Z h0 qu "com/example/semijoin/semijoin/query/Identifier" "position" "Lcom/example/semijoin/semijoin/query/Position;" (.ref po_qu)) (G_nm : Fld Z h0 nm "com/example/semijoin/semijoin/query/Identifier" "position" "Lcom/example/semijoin/semijoin/query/Position;" (.ref po_nm)) :
    MetFree l (⟨"com/example/semijoin/semijoin/query/ColumnRef", "getPosition", "()Lcom/example/semijoin/semijoin/query/Position;"⟩ : MethodName) (head1 (Jvm.Cond.code (⟨"com/example/semijoin/semijoin/query/ColumnRef", "getPosition", "()Lcom/example/semijoin/semijoin/query/Position;"⟩ : MethodName) prog_65_method_6_code 2 (some (.object "com/example/semijoin/semijoin/query/Position")) :: ws) ({ frames := 1, cells := 0, slots := 0, locals := 12 } : Room)) (fun a U => a = #[(.ref ob)] ∧ Z.Warmed39 U.vm ∧ U.heap = h0) (fun _ _ _ _ _ => True) (fun _ U o U' => ∃ v L, o = .returned v ∧ QCG2 Z ob qu nm po_qu po_nm h0 n0 v U'.heap L ∧ FrameEnd U o U' L ({ frames := 1, cells := 0, slots := 0, locals := 12 } : Room).cells ({ frames := 1, cells := 0, slots := 0, locals := 12 } : Room).slots) := by
  refine MetFree.of_bodySF (plainFor_of_name pn_4) hisR ?_
  intro p e s0 m args below meth c s₁ Bd hml0 hP hK
  obtain ⟨rfl, hZ, hh⟩ := hP
  have hx := Bd.exec
  have hby := Bd.bytes
  have hml : c.maxLocals = 2 := hml0
  have hown : s0.vm.findClass "com/example/semijoin/semijoin/query/ColumnRef" = some m.cls := findClass_of_methodNamed Bd.named
  have hnm := (name_of_methodNamed Bd.named Bd.method).1
  have X0 : Stand p l e ({ frames := 1, cells := 0, slots := 0, locals := 12 } : Room) s0 m #[(.ref ob)] below meth c s₁ [] 0 0 := Stand.of_body Bd
  have e0 : s₁.heap = h0 := by rw [← hh, Bd.state]; rfl
  have N0 := Fr.nil n0
  have pre0 : ∀ t, Steps p.tables e below (s₁.setTop (mkF m 0 #[.val (.ref ob), .unset] [])) t → Steps p.tables e below (s₁.setTop (entryFrame m #[(.ref ob)] 2)) t := fun t k => castTop (ef_rmCG2 m ob) k
  obtain ⟨T1, X1, e1, st1⟩ := getF X0 hx hZ hown (host := "") (Or.inl (hw _ (List.mem_of_getElem? (i := 66) rfl))) Via.refl e0 F_name (g := (mkF m 1 #[.val (.ref ob), .unset] [(.ref ob)])) rfl rfl (hb hby d10_1)
  obtain ⟨cq2, kq2, q2a, q2b, q2c⟩ := isOf hZ e1 E_nm
  obtain ⟨_, _, ⟨T2, L2, k2, n2⟩, -, X2, ⟨Lc2, hQ2, l2, y2, z2⟩, st2⟩ := X1.virtualBack hx (y := (⟨"com/example/semijoin/semijoin/query/Identifier", "getPosition", "()Lcom/example/semijoin/semijoin/query/Position;"⟩ : MethodName)) (z := (⟨"com/example/semijoin/semijoin/query/Identifier", "getPosition", "()Lcom/example/semijoin/semijoin/query/Position;"⟩ : MethodName)) hown (mvT hZ (hw _ (List.mem_of_getElem? (i := 73) rfl))) (mvT hZ (hw _ (List.mem_of_getElem? (i := 74) rfl))) (notFace_of_selects (args := #[]) (mvT hZ (hw _ (List.mem_of_getElem? (i := 76) rfl)))) (mvT hZ (hw _ (List.mem_of_getElem? (i := 76) rfl))) (mvT hZ (hw _ (List.mem_of_getElem? (i := 75) rfl))) (by decide) (backOf (W := 0) (rmIG l Z a0 hw [] nm po_nm h0 n0 Z0 G_nm) hZ (hw _ (List.mem_of_getElem? (i := 77) rfl)) (hw _ (List.mem_of_getElem? (i := 20) rfl)) (by decide) (by decide)) q2a q2c (g := (mkF m 4 #[.val (.ref ob), .unset] [(.ref nm)])) rfl (by rw [hml]; rfl) (Steps.refl _) (argsL := []) (rest := []) (lenOf pd_4 rfl) rfl (by show 2 * 0 + _ ≤ _; exact Nat.le_of_eq rfl) (hb hby d10_4) (fun _ _ => ⟨rfl, e1, (by decide : 0 + 0 ≤ _), (by decide : 0 + 0 ≤ _)⟩)
  dsimp only [Pt.U, Pt.locs, Pt.cells, Pt.slots] at X2 l2 y2 z2 st2 hQ2
  subst l2 y2 z2
  obtain ⟨rfl, Nq2, hh2⟩ := hQ2
  have N2 := Fr.app N0 Nq2
  have e2 : T2.heap = h0 := hh2
  obtain ⟨T3, X3, e3, st3⟩ := getF X2 hx hZ hown (host := "") (Or.inl (hw _ (List.mem_of_getElem? (i := 62) rfl))) Via.refl e2 F_schema (g := (mkF m 9 #[.val (.ref ob), .val (.ref po_nm)] [(.ref ob)])) rfl rfl (hb hby d10_9)
  obtain ⟨T4, X4, e4, st4⟩ := getF X3 hx hZ hown (host := "") (Or.inl (hw _ (List.mem_of_getElem? (i := 64) rfl))) Via.refl e3 F_qualifier (g := (mkF m 27 #[.val (.ref ob), .val (.ref po_nm)] [(.ref ob)])) rfl rfl (hb hby d10_27)
  obtain ⟨T5, X5, e5, st5⟩ := getF X4 hx hZ hown (host := "") (Or.inl (hw _ (List.mem_of_getElem? (i := 64) rfl))) Via.refl e4 F_qualifier (g := (mkF m 34 #[.val (.ref ob), .val (.ref po_nm)] [(.ref ob)])) rfl rfl (hb hby d10_34)
  obtain ⟨cq6, kq6, q6a, q6b, q6c⟩ := isOf hZ e5 E_qu
  obtain ⟨_, _, ⟨T6, L6, k6, n6⟩, -, X6, ⟨Lc6, hQ6, l6, y6, z6⟩, st6⟩ := X5.virtualBack hx (y := (⟨"com/example/semijoin/semijoin/query/Identifier", "getPosition", "()Lcom/example/semijoin/semijoin/query/Position;"⟩ : MethodName)) (z := (⟨"com/example/semijoin/semijoin/query/Identifier", "getPosition", "()Lcom/example/semijoin/semijoin/query/Position;"⟩ : MethodName)) hown (mvT hZ (hw _ (List.mem_of_getElem? (i := 73) rfl))) (mvT hZ (hw _ (List.mem_of_getElem? (i := 74) rfl))) (notFace_of_selects (args := #[]) (mvT hZ (hw _ (List.mem_of_getElem? (i := 76) rfl)))) (mvT hZ (hw _ (List.mem_of_getElem? (i := 76) rfl))) (mvT hZ (hw _ (List.mem_of_getElem? (i := 75) rfl))) (by decide) (backOf (W := 0) (rmIG l Z a0 hw [] qu po_qu h0 n0 Z0 G_qu) hZ (hw _ (List.mem_of_getElem? (i := 77) rfl)) (hw _ (List.mem_of_getElem? (i := 20) rfl)) (by decide) (by decide)) q6a q6c (g := (mkF m 37 #[.val (.ref ob), .val (.ref po_nm)] [(.ref qu)])) rfl (by rw [hml]; rfl) (Steps.refl _) (argsL := []) (rest := []) (lenOf pd_4 rfl) rfl (by show 2 * 0 + _ ≤ _; exact Nat.le_of_eq rfl) (hb hby d10_37) (fun _ _ => ⟨rfl, e5, (by decide : 0 + 0 ≤ _), (by decide : 0 + 0 ≤ _)⟩)
  dsimp only [Pt.U, Pt.locs, Pt.cells, Pt.slots] at X6 l6 y6 z6 st6 hQ6
  subst l6 y6 z6
  obtain ⟨rfl, Nq6, hh6⟩ := hQ6
  have N6 := Fr.app N2 Nq6
  have e6 : T6.heap = h0 := hh6
  have pre7 : ∀ t, Steps p.tables e below (T6.setTop (mkF m 42 #[.val (.ref ob), .val (.ref po_qu)] [(.ref po_qu)])) t → Steps p.tables e below (s₁.setTop (entryFrame m #[(.ref ob)] 2)) t := fun t k => by
    refine pre0 t ?_
    show Steps p.tables e below (s₁.setTop (mkF m 0 #[.val (.ref ob), .unset] [])) _
    refine XS.aloadN X0.here hx rfl (hb hby d10_0) rfl rfl ?_
    show Steps p.tables e below (s₁.setTop (mkF m 1 #[.val (.ref ob), .unset] [(.ref ob)])) _
    refine st1 _ ?_
    show Steps p.tables e below (T1.setTop (mkF m 4 #[.val (.ref ob), .unset] [(.ref nm)])) _
    refine st2.trans ?_
    show Steps p.tables e below (T2.setTop (mkF m 7 #[.val (.ref ob), .unset] [(.ref po_nm)])) _
    refine XS.astoreN X2.here hx rfl (hb hby d10_7) rfl rfl (l' := #[.val (.ref ob), .val (.ref po_nm)]) rfl ?_
    show Steps p.tables e below (T2.setTop (mkF m 8 #[.val (.ref ob), .val (.ref po_nm)] [])) _
    refine XS.aloadN X2.here hx rfl (hb hby d10_8) rfl rfl ?_
    show Steps p.tables e below (T2.setTop (mkF m 9 #[.val (.ref ob), .val (.ref po_nm)] [(.ref ob)])) _
    refine st3 _ ?_
    show Steps p.tables e below (T3.setTop (mkF m 12 #[.val (.ref ob), .val (.ref po_nm)] [.null])) _
    refine XS.ifnullYes X3.here hx rfl (pc0 := 12) (pc' := 26) rfl (hb hby d10_12) rfl (by decide) (by decide) ?_
    show Steps p.tables e below (T3.setTop (mkF m 26 #[.val (.ref ob), .val (.ref po_nm)] [])) _
    refine XS.aloadN X3.here hx rfl (hb hby d10_26) rfl rfl ?_
    show Steps p.tables e below (T3.setTop (mkF m 27 #[.val (.ref ob), .val (.ref po_nm)] [(.ref ob)])) _
    refine st4 _ ?_
    show Steps p.tables e below (T4.setTop (mkF m 30 #[.val (.ref ob), .val (.ref po_nm)] [(.ref qu)])) _
    refine XS.ifnullNo X4.here hx rfl (hb hby d10_30) rfl ?_
    show Steps p.tables e below (T4.setTop (mkF m 33 #[.val (.ref ob), .val (.ref po_nm)] [])) _
    refine XS.aloadN X4.here hx rfl (hb hby d10_33) rfl rfl ?_
    show Steps p.tables e below (T4.setTop (mkF m 34 #[.val (.ref ob), .val (.ref po_nm)] [(.ref ob)])) _
    refine st5 _ ?_
    show Steps p.tables e below (T5.setTop (mkF m 37 #[.val (.ref ob), .val (.ref po_nm)] [(.ref qu)])) _
    refine st6.trans ?_
    show Steps p.tables e below (T6.setTop (mkF m 40 #[.val (.ref ob), .val (.ref po_nm)] [(.ref po_qu)])) _
    refine XS.astoreN X6.here hx rfl (hb hby d10_40) rfl rfl (l' := #[.val (.ref ob), .val (.ref po_qu)]) rfl ?_
    show Steps p.tables e below (T6.setTop (mkF m 41 #[.val (.ref ob), .val (.ref po_qu)] [])) _
    refine XS.aloadN X6.here hx rfl (hb hby d10_41) rfl rfl ?_
    exact k
  obtain ⟨fs, hrq, hrun, hended, hW, hsame⟩ := X6.leave (v := some (.ref po_qu)) (fun h => by rw [Bd.returns] at h; cases h)
  refine ⟨_, _, pre7 _ ?_, hrun, hended, _, _, rfl, ?_, ⟨_, rfl⟩, hW, hsame.mono (by decide) (by decide)⟩
  · show Steps p.tables e below (T6.setTop (mkF m 42 #[.val (.ref ob), .val (.ref po_qu)] [(.ref po_qu)])) _
    exact retOut X6 hx Bd.returns rfl (Or.inr (Or.inr (Or.inr (Or.inr ⟨rfl, rfl, rfl⟩)))) (hb hby d10_42) hrq
  · show QCG2 Z ob qu nm po_qu po_nm h0 n0 _ T6.heap _
    rw [e6]
    exact ⟨rfl, N6, rfl⟩
theorem ef_rmCG3 (m : MethodId) (x0 : Addr) : entryFrame m #[(.ref x0)] 2 = mkF m 0 #[.val (.ref x0), .unset] [] := by first | (simp [entryFrame, mkF, argsToLocals, Value.category]; done) | rfl
def QCG3 (Z : State) (ob : Addr) (nm po_nm : Addr) (h0 : Heap) (n0 : Nat) (v : Option Value) (h : Heap) (L : List Loc) : Prop := v = some (.ref po_nm) ∧ Fr n0 L ∧ h = h0
set_option maxRecDepth 65536 in
set_option maxHeartbeats 40000000 in
theorem rmCG3 (l : Launch) (Z : State) (a0 : Array Value) (hw : ∀ d ∈ tables_1, d.before a0 Z = true) (ws : List Jvm.Cond) (ob : Addr) (nm po_nm : Addr) (h0 : Heap) (n0 : Nat) (Z0 : n0 ≤ h0.size) (F_name : Fld Z h0 ob "com/example/semijoin/semijoin/query/ColumnRef" "name" "Lcom/example/semijoin/semijoin/query/Identifier;" (.ref nm)) (F_schema : Fld Z h0 ob "com/example/semijoin/semijoin/query/ColumnRef" "schema" "Lcom/example/semijoin/semijoin/query/Identifier;" .null) (F_qualifier : Fld Z h0 ob "com/example/semijoin/semijoin/query/ColumnRef" "qualifier" "Lcom/example/semijoin/semijoin/query/Identifier;" .null) (E_nm : Exa Z h0 nm "com/example/semijoin/semijoin/query/Identifier") (G_nm : Fld Z h0 nm "com/example/semijoin/semijoin/query/Identifier" "position" "Lcom/example/semijoin/semijoin/query/Position;" (.ref po_nm)) :
    MetFree l (⟨"com/example/semijoin/semijoin/query/ColumnRef", "getPosition", "()Lcom/example/semijoin/semijoin/query/Position;"⟩ : MethodName) (head1 (Jvm.Cond.code (⟨"com/example/semijoin/semijoin/query/ColumnRef", "getPosition", "()Lcom/example/semijoin/semijoin/query/Position;"⟩ : MethodName) prog_65_method_6_code 2 (some (.object "com/example/semijoin/semijoin/query/Position")) :: ws) ({ frames := 1, cells := 0, slots := 0, locals := 12 } : Room)) (fun a U => a = #[(.ref ob)] ∧ Z.Warmed39 U.vm ∧ U.heap = h0) (fun _ _ _ _ _ => True) (fun _ U o U' => ∃ v L, o = .returned v ∧ QCG3 Z ob nm po_nm h0 n0 v U'.heap L ∧ FrameEnd U o U' L ({ frames := 1, cells := 0, slots := 0, locals := 12 } : Room).cells ({ frames := 1, cells := 0, slots := 0, locals := 12 } : Room).slots) := by
  refine MetFree.of_bodySF (plainFor_of_name pn_4) hisR ?_
  intro p e s0 m args below meth c s₁ Bd hml0 hP hK
  obtain ⟨rfl, hZ, hh⟩ := hP
  have hx := Bd.exec
  have hby := Bd.bytes
  have hml : c.maxLocals = 2 := hml0
  have hown : s0.vm.findClass "com/example/semijoin/semijoin/query/ColumnRef" = some m.cls := findClass_of_methodNamed Bd.named
  have hnm := (name_of_methodNamed Bd.named Bd.method).1
  have X0 : Stand p l e ({ frames := 1, cells := 0, slots := 0, locals := 12 } : Room) s0 m #[(.ref ob)] below meth c s₁ [] 0 0 := Stand.of_body Bd
  have e0 : s₁.heap = h0 := by rw [← hh, Bd.state]; rfl
  have N0 := Fr.nil n0
  have pre0 : ∀ t, Steps p.tables e below (s₁.setTop (mkF m 0 #[.val (.ref ob), .unset] [])) t → Steps p.tables e below (s₁.setTop (entryFrame m #[(.ref ob)] 2)) t := fun t k => castTop (ef_rmCG3 m ob) k
  obtain ⟨T1, X1, e1, st1⟩ := getF X0 hx hZ hown (host := "") (Or.inl (hw _ (List.mem_of_getElem? (i := 66) rfl))) Via.refl e0 F_name (g := (mkF m 1 #[.val (.ref ob), .unset] [(.ref ob)])) rfl rfl (hb hby d10_1)
  obtain ⟨cq2, kq2, q2a, q2b, q2c⟩ := isOf hZ e1 E_nm
  obtain ⟨_, _, ⟨T2, L2, k2, n2⟩, -, X2, ⟨Lc2, hQ2, l2, y2, z2⟩, st2⟩ := X1.virtualBack hx (y := (⟨"com/example/semijoin/semijoin/query/Identifier", "getPosition", "()Lcom/example/semijoin/semijoin/query/Position;"⟩ : MethodName)) (z := (⟨"com/example/semijoin/semijoin/query/Identifier", "getPosition", "()Lcom/example/semijoin/semijoin/query/Position;"⟩ : MethodName)) hown (mvT hZ (hw _ (List.mem_of_getElem? (i := 73) rfl))) (mvT hZ (hw _ (List.mem_of_getElem? (i := 74) rfl))) (notFace_of_selects (args := #[]) (mvT hZ (hw _ (List.mem_of_getElem? (i := 76) rfl)))) (mvT hZ (hw _ (List.mem_of_getElem? (i := 76) rfl))) (mvT hZ (hw _ (List.mem_of_getElem? (i := 75) rfl))) (by decide) (backOf (W := 0) (rmIG l Z a0 hw [] nm po_nm h0 n0 Z0 G_nm) hZ (hw _ (List.mem_of_getElem? (i := 77) rfl)) (hw _ (List.mem_of_getElem? (i := 20) rfl)) (by decide) (by decide)) q2a q2c (g := (mkF m 4 #[.val (.ref ob), .unset] [(.ref nm)])) rfl (by rw [hml]; rfl) (Steps.refl _) (argsL := []) (rest := []) (lenOf pd_4 rfl) rfl (by show 2 * 0 + _ ≤ _; exact Nat.le_of_eq rfl) (hb hby d10_4) (fun _ _ => ⟨rfl, e1, (by decide : 0 + 0 ≤ _), (by decide : 0 + 0 ≤ _)⟩)
  dsimp only [Pt.U, Pt.locs, Pt.cells, Pt.slots] at X2 l2 y2 z2 st2 hQ2
  subst l2 y2 z2
  obtain ⟨rfl, Nq2, hh2⟩ := hQ2
  have N2 := Fr.app N0 Nq2
  have e2 : T2.heap = h0 := hh2
  obtain ⟨T3, X3, e3, st3⟩ := getF X2 hx hZ hown (host := "") (Or.inl (hw _ (List.mem_of_getElem? (i := 62) rfl))) Via.refl e2 F_schema (g := (mkF m 9 #[.val (.ref ob), .val (.ref po_nm)] [(.ref ob)])) rfl rfl (hb hby d10_9)
  obtain ⟨T4, X4, e4, st4⟩ := getF X3 hx hZ hown (host := "") (Or.inl (hw _ (List.mem_of_getElem? (i := 64) rfl))) Via.refl e3 F_qualifier (g := (mkF m 27 #[.val (.ref ob), .val (.ref po_nm)] [(.ref ob)])) rfl rfl (hb hby d10_27)
  have pre5 : ∀ t, Steps p.tables e below (T4.setTop (mkF m 42 #[.val (.ref ob), .val (.ref po_nm)] [(.ref po_nm)])) t → Steps p.tables e below (s₁.setTop (entryFrame m #[(.ref ob)] 2)) t := fun t k => by
    refine pre0 t ?_
    show Steps p.tables e below (s₁.setTop (mkF m 0 #[.val (.ref ob), .unset] [])) _
    refine XS.aloadN X0.here hx rfl (hb hby d10_0) rfl rfl ?_
    show Steps p.tables e below (s₁.setTop (mkF m 1 #[.val (.ref ob), .unset] [(.ref ob)])) _
    refine st1 _ ?_
    show Steps p.tables e below (T1.setTop (mkF m 4 #[.val (.ref ob), .unset] [(.ref nm)])) _
    refine st2.trans ?_
    show Steps p.tables e below (T2.setTop (mkF m 7 #[.val (.ref ob), .unset] [(.ref po_nm)])) _
    refine XS.astoreN X2.here hx rfl (hb hby d10_7) rfl rfl (l' := #[.val (.ref ob), .val (.ref po_nm)]) rfl ?_
    show Steps p.tables e below (T2.setTop (mkF m 8 #[.val (.ref ob), .val (.ref po_nm)] [])) _
    refine XS.aloadN X2.here hx rfl (hb hby d10_8) rfl rfl ?_
    show Steps p.tables e below (T2.setTop (mkF m 9 #[.val (.ref ob), .val (.ref po_nm)] [(.ref ob)])) _
    refine st3 _ ?_
    show Steps p.tables e below (T3.setTop (mkF m 12 #[.val (.ref ob), .val (.ref po_nm)] [.null])) _
    refine XS.ifnullYes X3.here hx rfl (pc0 := 12) (pc' := 26) rfl (hb hby d10_12) rfl (by decide) (by decide) ?_
    show Steps p.tables e below (T3.setTop (mkF m 26 #[.val (.ref ob), .val (.ref po_nm)] [])) _
    refine XS.aloadN X3.here hx rfl (hb hby d10_26) rfl rfl ?_
    show Steps p.tables e below (T3.setTop (mkF m 27 #[.val (.ref ob), .val (.ref po_nm)] [(.ref ob)])) _
    refine st4 _ ?_
    show Steps p.tables e below (T4.setTop (mkF m 30 #[.val (.ref ob), .val (.ref po_nm)] [.null])) _
    refine XS.ifnullYes X4.here hx rfl (pc0 := 30) (pc' := 41) rfl (hb hby d10_30) rfl (by decide) (by decide) ?_
    show Steps p.tables e below (T4.setTop (mkF m 41 #[.val (.ref ob), .val (.ref po_nm)] [])) _
    refine XS.aloadN X4.here hx rfl (hb hby d10_41) rfl rfl ?_
    exact k
  obtain ⟨fs, hrq, hrun, hended, hW, hsame⟩ := X4.leave (v := some (.ref po_nm)) (fun h => by rw [Bd.returns] at h; cases h)
  refine ⟨_, _, pre5 _ ?_, hrun, hended, _, _, rfl, ?_, ⟨_, rfl⟩, hW, hsame.mono (by decide) (by decide)⟩
  · show Steps p.tables e below (T4.setTop (mkF m 42 #[.val (.ref ob), .val (.ref po_nm)] [(.ref po_nm)])) _
    exact retOut X4 hx Bd.returns rfl (Or.inr (Or.inr (Or.inr (Or.inr ⟨rfl, rfl, rfl⟩)))) (hb hby d10_42) hrq
  · show QCG3 Z ob nm po_nm h0 n0 _ T4.heap _
    rw [e4]
    exact ⟨rfl, N2, rfl⟩
theorem pd_5 : parseMethodDescriptor "(II)V" = some ⟨[.int, .int], none⟩ := by decide +kernel
theorem pd_6 : parseMethodDescriptor "(C)Ljava/lang/String;" = some ⟨[.char], some (.object "java/lang/String")⟩ := by decide +kernel
theorem pd_7 : parseMethodDescriptor "(Ljava/lang/String;ZLcom/example/semijoin/semijoin/query/Position;)V" = some ⟨[(.object "java/lang/String"), .boolean, (.object "com/example/semijoin/semijoin/query/Position")], none⟩ := by decide +kernel
theorem pd_8 : parseMethodDescriptor "(Lcom/example/semijoin/semijoin/query/Identifier;Lcom/example/semijoin/semijoin/query/Identifier;Lcom/example/semijoin/semijoin/query/Identifier;)V" = some ⟨[(.object "com/example/semijoin/semijoin/query/Identifier"), (.object "com/example/semijoin/semijoin/query/Identifier"), (.object "com/example/semijoin/semijoin/query/Identifier")], none⟩ := by decide +kernel
theorem ef_rm0 (m : MethodId) (x0 : Int32) (x1 : Int32) (x2 : Int32) (x3 : Int32) (x4 : Int32) (x5 : Int64) : entryFrame m #[(.int x0), (.int x1), (.int x2), (.int x3), (.int x4), (.long x5)] maxLocals = mkF m 0 #[.val (.int x0), .val (.int x1), .val (.int x2), .val (.int x3), .val (.int x4), .val (.long x5), .second, .unset, .unset, .unset, .unset, .unset, .unset, .unset, .unset, .unset, .unset, .unset, .unset, .unset, .unset] [] := by first | (simp [entryFrame, mkF, argsToLocals, Value.category, maxLocals]; done) | rfl
theorem pn_5 : plainName "com/example/semijoin/semijoin/query/ColumnRefGetPositionPinLaw" = true := by first | (simp [plainName, overriddenIn]; done) | decide +kernel
def Q0 (Z : State) (p0 : Int32) (p1 : Int32) (p2 : Int32) (p3 : Int32) (p4 : Int32) (q5 : Int64) (cs : Int32) (h0 : Heap) (n0 : Nat) (v : Option Value) (h : Heap) (L : List Loc) : Prop := v = some (.int 1) ∧ Fr n0 L
set_option maxRecDepth 65536 in
set_option maxHeartbeats 40000000 in
theorem rm0 (l : Launch) (Z : State) (a0 : Array Value) (hw : ∀ d ∈ tables_1, d.before a0 Z = true) (ws : List Jvm.Cond) (p0 : Int32) (p1 : Int32) (p2 : Int32) (p3 : Int32) (p4 : Int32) (q5 : Int64) (cs : Int32) (h0 : Heap) (n0 : Nat) (Z0 : n0 ≤ h0.size) (S_cs : Sta Z h0 "java/lang/String" "COMPACT_STRINGS" "Z" (.int cs)) (hcs : ¬ (cs = (0 : Int32))) :
    MetFree l x (head1 (Jvm.Cond.code x code maxLocals ret :: ws) room_1) (fun a U => a = #[(.int p0), (.int p1), (.int p2), (.int p3), (.int p4), (.long q5)] ∧ Z.Warmed39 U.vm ∧ U.heap = h0) (fun _ _ _ _ _ => True) (fun _ U o U' => ∃ v L, o = .returned v ∧ Q0 Z p0 p1 p2 p3 p4 q5 cs h0 n0 v U'.heap L ∧ FrameEnd U o U' L room_1.cells room_1.slots) := by
  refine MetFree.of_bodySF (plainFor_of_name pn_5) hisR ?_
  intro p e s0 m args below meth c s₁ Bd hml0 hP hK
  obtain ⟨rfl, hZ, hh⟩ := hP
  have hx := Bd.exec
  have hby := Bd.bytes
  have hml : c.maxLocals = 21 := hml0
  have hown : s0.vm.findClass "com/example/semijoin/semijoin/query/ColumnRefGetPositionPinLaw" = some m.cls := findClass_of_methodNamed Bd.named
  have hnm := (name_of_methodNamed Bd.named Bd.method).1
  have X0 : Stand p l e room_1 s0 m #[(.int p0), (.int p1), (.int p2), (.int p3), (.int p4), (.long q5)] below meth c s₁ [] 0 0 := Stand.of_body Bd
  have e0 : s₁.heap = h0 := by rw [← hh, Bd.state]; rfl
  have N0 := Fr.nil n0
  have pre0 : ∀ t, Steps p.tables e below (s₁.setTop (mkF m 0 #[.val (.int p0), .val (.int p1), .val (.int p2), .val (.int p3), .val (.int p4), .val (.long q5), .second, .unset, .unset, .unset, .unset, .unset, .unset, .unset, .unset, .unset, .unset, .unset, .unset, .unset, .unset] [])) t → Steps p.tables e below (s₁.setTop (entryFrame m #[(.int p0), (.int p1), (.int p2), (.int p3), (.int p4), (.long q5)] maxLocals)) t := fun t k => castTop (ef_rm0 m p0 p1 p2 p3 p4 q5) k
  obtain ⟨T1, h1, X1, e1, E1, A1, D1, -, st1⟩ := newO X0 hx hZ hown (hw _ (List.mem_of_getElem? (i := 0) rfl)) (hw _ (List.mem_of_getElem? (i := 1) rfl)) (hw _ (List.mem_of_getElem? (i := 2) rfl)) e0 (g := (mkF m 0 #[.val (.int p0), .val (.int p1), .val (.int p2), .val (.int p3), .val (.int p4), .val (.long q5), .second, .unset, .unset, .unset, .unset, .unset, .unset, .unset, .unset, .unset, .unset, .unset, .unset, .unset, .unset] [])) rfl (hb hby at_0) (by decide) (by decide)
  obtain ⟨b1, g1⟩ : ∃ z, z = h0.size := ⟨_, rfl⟩
  rw [← g1] at A1 D1 st1
  have g_b1 : n0 ≤ b1 := Nat.le_trans Z0 (Nat.le_of_eq g1.symm)
  have Z2 : n0 ≤ h1.size := Nat.le_trans Z0 E1.1
  have F_line_b1 : Fld Z h1 b1 "com/example/semijoin/semijoin/query/Position" "line" "I" (.int (0 : Int32)) := D1 (Or.inr (hw _ (List.mem_of_getElem? (i := 13) rfl))) (ty := .int) (by decide)
  have F_column_b1 : Fld Z h1 b1 "com/example/semijoin/semijoin/query/Position" "column" "I" (.int (0 : Int32)) := D1 (Or.inr (hw _ (List.mem_of_getElem? (i := 15) rfl))) (ty := .int) (by decide)
  have F_source_b1 : Fld Z h1 b1 "com/example/semijoin/semijoin/query/Position" "source" "Ljava/lang/String;" .null := D1 (Or.inr (hw _ (List.mem_of_getElem? (i := 17) rfl))) (ty := (.object "java/lang/String")) (by decide)
  obtain ⟨_, _, ⟨T3, L3, k3, n3⟩, -, X3, ⟨Lc3, hQ3, l3, y3, z3⟩, st3⟩ := X1.specialBack hx (y := (⟨"com/example/semijoin/semijoin/query/Position", "<init>", "(II)V"⟩ : MethodName)) rfl hown (mvT hZ (hw _ (List.mem_of_getElem? (i := 3) rfl))) (mvT hZ (hw _ (List.mem_of_getElem? (i := 4) rfl))) (mvT hZ (hw _ (List.mem_of_getElem? (i := 5) rfl))) (by decide) (backOf (W := 1) (rmP1 l Z a0 hw [] b1 p1 p2 h1 n0 Z2 A1 F_line_b1 F_column_b1 F_source_b1 g_b1) hZ (hw _ (List.mem_of_getElem? (i := 5) rfl)) (hw _ (List.mem_of_getElem? (i := 2) rfl)) (by decide) (by decide)) (g := (mkF m 6 #[.val (.int p0), .val (.int p1), .val (.int p2), .val (.int p3), .val (.int p4), .val (.long q5), .second, .unset, .unset, .unset, .unset, .unset, .unset, .unset, .unset, .unset, .unset, .unset, .unset, .unset, .unset] [(.int p2), (.int p1), (.ref b1), (.ref b1)])) rfl (by rw [hml]; rfl) (Steps.refl _) (a := b1) (argsL := [(.int p1), (.int p2)]) (rest := [(.ref b1)]) (lenOf pd_5 rfl) rfl (by show 2 * 0 + _ ≤ _; exact Nat.le_of_eq rfl) (hb hby at_6) (fun _ _ => ⟨rfl, e1, (by decide : 1 + 0 ≤ _), (by decide : 3 + 0 ≤ _)⟩)
  dsimp only [Pt.U, Pt.locs, Pt.cells, Pt.slots] at X3 l3 y3 z3 st3 hQ3
  subst l3 y3 z3
  obtain ⟨rfl, Nq3, Kq3⟩ := hQ3
  have N3 := Fr.app N0 Nq3
  have Z4 : n0 ≤ T3.heap.size := Nat.le_trans Z2 Kq3.1
  obtain ⟨T5, h5, X5, e5, E5, A5, D5, -, st5⟩ := newO X3 hx hZ hown (hw _ (List.mem_of_getElem? (i := 0) rfl)) (hw _ (List.mem_of_getElem? (i := 1) rfl)) (hw _ (List.mem_of_getElem? (i := 2) rfl)) rfl (g := (mkF m 11 #[.val (.int p0), .val (.int p1), .val (.int p2), .val (.int p3), .val (.int p4), .val (.long q5), .second, .val (.ref b1), .unset, .unset, .unset, .unset, .unset, .unset, .unset, .unset, .unset, .unset, .unset, .unset, .unset] [])) rfl (hb hby at_11) (by decide) (by decide)
  obtain ⟨b5, g5⟩ : ∃ z, z = T3.heap.size := ⟨_, rfl⟩
  rw [← g5] at A5 D5 st5
  have g_b5 : n0 ≤ b5 := Nat.le_trans Z4 (Nat.le_of_eq g5.symm)
  have Z6 : n0 ≤ h5.size := Nat.le_trans Z4 E5.1
  have F_line_b5 : Fld Z h5 b5 "com/example/semijoin/semijoin/query/Position" "line" "I" (.int (0 : Int32)) := D5 (Or.inr (hw _ (List.mem_of_getElem? (i := 13) rfl))) (ty := .int) (by decide)
  have F_column_b5 : Fld Z h5 b5 "com/example/semijoin/semijoin/query/Position" "column" "I" (.int (0 : Int32)) := D5 (Or.inr (hw _ (List.mem_of_getElem? (i := 15) rfl))) (ty := .int) (by decide)
  have F_source_b5 : Fld Z h5 b5 "com/example/semijoin/semijoin/query/Position" "source" "Ljava/lang/String;" .null := D5 (Or.inr (hw _ (List.mem_of_getElem? (i := 17) rfl))) (ty := (.object "java/lang/String")) (by decide)
  obtain ⟨_, _, ⟨T7, L7, k7, n7⟩, -, X7, ⟨Lc7, hQ7, l7, y7, z7⟩, st7⟩ := X5.specialBack hx (y := (⟨"com/example/semijoin/semijoin/query/Position", "<init>", "(II)V"⟩ : MethodName)) rfl hown (mvT hZ (hw _ (List.mem_of_getElem? (i := 3) rfl))) (mvT hZ (hw _ (List.mem_of_getElem? (i := 4) rfl))) (mvT hZ (hw _ (List.mem_of_getElem? (i := 5) rfl))) (by decide) (backOf (W := 1) (rmP1 l Z a0 hw [] b5 p3 p4 h5 n0 Z6 A5 F_line_b5 F_column_b5 F_source_b5 g_b5) hZ (hw _ (List.mem_of_getElem? (i := 5) rfl)) (hw _ (List.mem_of_getElem? (i := 2) rfl)) (by decide) (by decide)) (g := (mkF m 18 #[.val (.int p0), .val (.int p1), .val (.int p2), .val (.int p3), .val (.int p4), .val (.long q5), .second, .val (.ref b1), .unset, .unset, .unset, .unset, .unset, .unset, .unset, .unset, .unset, .unset, .unset, .unset, .unset] [(.int p4), (.int p3), (.ref b5), (.ref b5)])) rfl (by rw [hml]; rfl) (Steps.refl _) (a := b5) (argsL := [(.int p3), (.int p4)]) (rest := [(.ref b5)]) (lenOf pd_5 rfl) rfl (by show 2 * 0 + _ ≤ _; exact Nat.le_of_eq rfl) (hb hby at_18) (fun _ _ => ⟨rfl, e5, (by decide : 2 + 0 ≤ _), (by decide : 6 + 0 ≤ _)⟩)
  dsimp only [Pt.U, Pt.locs, Pt.cells, Pt.slots] at X7 l7 y7 z7 st7 hQ7
  subst l7 y7 z7
  obtain ⟨rfl, Nq7, Kq7⟩ := hQ7
  have N7 := Fr.app N3 Nq7
  have Z8 : n0 ≤ T7.heap.size := Nat.le_trans Z6 Kq7.1
  obtain ⟨T9, h9, X9, e9, E9, A9, D9, -, st9⟩ := newO X7 hx hZ hown (hw _ (List.mem_of_getElem? (i := 0) rfl)) (hw _ (List.mem_of_getElem? (i := 1) rfl)) (hw _ (List.mem_of_getElem? (i := 2) rfl)) rfl (g := (mkF m 23 #[.val (.int p0), .val (.int p1), .val (.int p2), .val (.int p3), .val (.int p4), .val (.long q5), .second, .val (.ref b1), .val (.ref b5), .unset, .unset, .unset, .unset, .unset, .unset, .unset, .unset, .unset, .unset, .unset, .unset] [])) rfl (hb hby at_23) (by decide) (by decide)
  obtain ⟨b9, g9⟩ : ∃ z, z = T7.heap.size := ⟨_, rfl⟩
  rw [← g9] at A9 D9 st9
  have g_b9 : n0 ≤ b9 := Nat.le_trans Z8 (Nat.le_of_eq g9.symm)
  have Z10 : n0 ≤ h9.size := Nat.le_trans Z8 E9.1
  have F_line_b9 : Fld Z h9 b9 "com/example/semijoin/semijoin/query/Position" "line" "I" (.int (0 : Int32)) := D9 (Or.inr (hw _ (List.mem_of_getElem? (i := 13) rfl))) (ty := .int) (by decide)
  have F_column_b9 : Fld Z h9 b9 "com/example/semijoin/semijoin/query/Position" "column" "I" (.int (0 : Int32)) := D9 (Or.inr (hw _ (List.mem_of_getElem? (i := 15) rfl))) (ty := .int) (by decide)
  have F_source_b9 : Fld Z h9 b9 "com/example/semijoin/semijoin/query/Position" "source" "Ljava/lang/String;" .null := D9 (Or.inr (hw _ (List.mem_of_getElem? (i := 17) rfl))) (ty := (.object "java/lang/String")) (by decide)
  obtain ⟨_, _, ⟨T11, L11, k11, n11⟩, -, X11, ⟨Lc11, hQ11, l11, y11, z11⟩, st11⟩ := X9.specialBack hx (y := (⟨"com/example/semijoin/semijoin/query/Position", "<init>", "(II)V"⟩ : MethodName)) rfl hown (mvT hZ (hw _ (List.mem_of_getElem? (i := 3) rfl))) (mvT hZ (hw _ (List.mem_of_getElem? (i := 4) rfl))) (mvT hZ (hw _ (List.mem_of_getElem? (i := 5) rfl))) (by decide) (backOf (W := 1) (rmP1 l Z a0 hw [] b9 (q5.toInt32) (((q5.toUInt64 >>> ((32 : Int32) &&& 0x3f).toInt64.toUInt64).toInt64).toInt32) h9 n0 Z10 A9 F_line_b9 F_column_b9 F_source_b9 g_b9) hZ (hw _ (List.mem_of_getElem? (i := 5) rfl)) (hw _ (List.mem_of_getElem? (i := 2) rfl)) (by decide) (by decide)) (g := (mkF m 36 #[.val (.int p0), .val (.int p1), .val (.int p2), .val (.int p3), .val (.int p4), .val (.long q5), .second, .val (.ref b1), .val (.ref b5), .unset, .unset, .unset, .unset, .unset, .unset, .unset, .unset, .unset, .unset, .unset, .unset] [(.int (((q5.toUInt64 >>> ((32 : Int32) &&& 0x3f).toInt64.toUInt64).toInt64).toInt32)), (.int (q5.toInt32)), (.ref b9), (.ref b9)])) rfl (by rw [hml]; rfl) (Steps.refl _) (a := b9) (argsL := [(.int (q5.toInt32)), (.int (((q5.toUInt64 >>> ((32 : Int32) &&& 0x3f).toInt64.toUInt64).toInt64).toInt32))]) (rest := [(.ref b9)]) (lenOf pd_5 rfl) rfl (by show 2 * 0 + _ ≤ _; exact Nat.le_of_eq rfl) (hb hby at_36) (fun _ _ => ⟨rfl, e9, (by decide : 3 + 0 ≤ _), (by decide : 9 + 0 ≤ _)⟩)
  dsimp only [Pt.U, Pt.locs, Pt.cells, Pt.slots] at X11 l11 y11 z11 st11 hQ11
  subst l11 y11 z11
  obtain ⟨rfl, Nq11, Kq11⟩ := hQ11
  have N11 := Fr.app N7 Nq11
  have Z12 : n0 ≤ T11.heap.size := Nat.le_trans Z10 Kq11.1
  have pre13 : ∀ t, Steps p.tables e below (T11.setTop (mkF m 44 #[.val (.int p0), .val (.int p1), .val (.int p2), .val (.int p3), .val (.int p4), .val (.long q5), .second, .val (.ref b1), .val (.ref b5), .val (.ref b9), .unset, .unset, .unset, .unset, .unset, .unset, .unset, .unset, .unset, .unset, .unset] [(.int (p0 &&& (1 : Int32)))])) t → Steps p.tables e below (s₁.setTop (entryFrame m #[(.int p0), (.int p1), (.int p2), (.int p3), (.int p4), (.long q5)] maxLocals)) t := fun t k => by
    refine pre0 t ?_
    show Steps p.tables e below (s₁.setTop (mkF m 0 #[.val (.int p0), .val (.int p1), .val (.int p2), .val (.int p3), .val (.int p4), .val (.long q5), .second, .unset, .unset, .unset, .unset, .unset, .unset, .unset, .unset, .unset, .unset, .unset, .unset, .unset, .unset] [])) _
    refine st1 _ ?_
    show Steps p.tables e below (T1.setTop (mkF m 3 #[.val (.int p0), .val (.int p1), .val (.int p2), .val (.int p3), .val (.int p4), .val (.long q5), .second, .unset, .unset, .unset, .unset, .unset, .unset, .unset, .unset, .unset, .unset, .unset, .unset, .unset, .unset] [(.ref b1)])) _
    refine XS.dup X1.here hx rfl (hb hby at_3) rfl rfl ?_
    show Steps p.tables e below (T1.setTop (mkF m 4 #[.val (.int p0), .val (.int p1), .val (.int p2), .val (.int p3), .val (.int p4), .val (.long q5), .second, .unset, .unset, .unset, .unset, .unset, .unset, .unset, .unset, .unset, .unset, .unset, .unset, .unset, .unset] [(.ref b1), (.ref b1)])) _
    refine XS.iloadN X1.here hx rfl (hb hby at_4) rfl ?_
    show Steps p.tables e below (T1.setTop (mkF m 5 #[.val (.int p0), .val (.int p1), .val (.int p2), .val (.int p3), .val (.int p4), .val (.long q5), .second, .unset, .unset, .unset, .unset, .unset, .unset, .unset, .unset, .unset, .unset, .unset, .unset, .unset, .unset] [(.int p1), (.ref b1), (.ref b1)])) _
    refine XS.iloadN X1.here hx rfl (hb hby at_5) rfl ?_
    show Steps p.tables e below (T1.setTop (mkF m 6 #[.val (.int p0), .val (.int p1), .val (.int p2), .val (.int p3), .val (.int p4), .val (.long q5), .second, .unset, .unset, .unset, .unset, .unset, .unset, .unset, .unset, .unset, .unset, .unset, .unset, .unset, .unset] [(.int p2), (.int p1), (.ref b1), (.ref b1)])) _
    refine st3.trans ?_
    show Steps p.tables e below (T3.setTop (mkF m 9 #[.val (.int p0), .val (.int p1), .val (.int p2), .val (.int p3), .val (.int p4), .val (.long q5), .second, .unset, .unset, .unset, .unset, .unset, .unset, .unset, .unset, .unset, .unset, .unset, .unset, .unset, .unset] [(.ref b1)])) _
    refine XS.astore X3.here hx rfl (hb hby at_9) rfl rfl (l' := #[.val (.int p0), .val (.int p1), .val (.int p2), .val (.int p3), .val (.int p4), .val (.long q5), .second, .val (.ref b1), .unset, .unset, .unset, .unset, .unset, .unset, .unset, .unset, .unset, .unset, .unset, .unset, .unset]) rfl ?_
    show Steps p.tables e below (T3.setTop (mkF m 11 #[.val (.int p0), .val (.int p1), .val (.int p2), .val (.int p3), .val (.int p4), .val (.long q5), .second, .val (.ref b1), .unset, .unset, .unset, .unset, .unset, .unset, .unset, .unset, .unset, .unset, .unset, .unset, .unset] [])) _
    refine st5 _ ?_
    show Steps p.tables e below (T5.setTop (mkF m 14 #[.val (.int p0), .val (.int p1), .val (.int p2), .val (.int p3), .val (.int p4), .val (.long q5), .second, .val (.ref b1), .unset, .unset, .unset, .unset, .unset, .unset, .unset, .unset, .unset, .unset, .unset, .unset, .unset] [(.ref b5)])) _
    refine XS.dup X5.here hx rfl (hb hby at_14) rfl rfl ?_
    show Steps p.tables e below (T5.setTop (mkF m 15 #[.val (.int p0), .val (.int p1), .val (.int p2), .val (.int p3), .val (.int p4), .val (.long q5), .second, .val (.ref b1), .unset, .unset, .unset, .unset, .unset, .unset, .unset, .unset, .unset, .unset, .unset, .unset, .unset] [(.ref b5), (.ref b5)])) _
    refine XS.iloadN X5.here hx rfl (hb hby at_15) rfl ?_
    show Steps p.tables e below (T5.setTop (mkF m 16 #[.val (.int p0), .val (.int p1), .val (.int p2), .val (.int p3), .val (.int p4), .val (.long q5), .second, .val (.ref b1), .unset, .unset, .unset, .unset, .unset, .unset, .unset, .unset, .unset, .unset, .unset, .unset, .unset] [(.int p3), (.ref b5), (.ref b5)])) _
    refine XS.iload X5.here hx rfl (hb hby at_16) rfl ?_
    show Steps p.tables e below (T5.setTop (mkF m 18 #[.val (.int p0), .val (.int p1), .val (.int p2), .val (.int p3), .val (.int p4), .val (.long q5), .second, .val (.ref b1), .unset, .unset, .unset, .unset, .unset, .unset, .unset, .unset, .unset, .unset, .unset, .unset, .unset] [(.int p4), (.int p3), (.ref b5), (.ref b5)])) _
    refine st7.trans ?_
    show Steps p.tables e below (T7.setTop (mkF m 21 #[.val (.int p0), .val (.int p1), .val (.int p2), .val (.int p3), .val (.int p4), .val (.long q5), .second, .val (.ref b1), .unset, .unset, .unset, .unset, .unset, .unset, .unset, .unset, .unset, .unset, .unset, .unset, .unset] [(.ref b5)])) _
    refine XS.astore X7.here hx rfl (hb hby at_21) rfl rfl (l' := #[.val (.int p0), .val (.int p1), .val (.int p2), .val (.int p3), .val (.int p4), .val (.long q5), .second, .val (.ref b1), .val (.ref b5), .unset, .unset, .unset, .unset, .unset, .unset, .unset, .unset, .unset, .unset, .unset, .unset]) rfl ?_
    show Steps p.tables e below (T7.setTop (mkF m 23 #[.val (.int p0), .val (.int p1), .val (.int p2), .val (.int p3), .val (.int p4), .val (.long q5), .second, .val (.ref b1), .val (.ref b5), .unset, .unset, .unset, .unset, .unset, .unset, .unset, .unset, .unset, .unset, .unset, .unset] [])) _
    refine st9 _ ?_
    show Steps p.tables e below (T9.setTop (mkF m 26 #[.val (.int p0), .val (.int p1), .val (.int p2), .val (.int p3), .val (.int p4), .val (.long q5), .second, .val (.ref b1), .val (.ref b5), .unset, .unset, .unset, .unset, .unset, .unset, .unset, .unset, .unset, .unset, .unset, .unset] [(.ref b9)])) _
    refine XS.dup X9.here hx rfl (hb hby at_26) rfl rfl ?_
    show Steps p.tables e below (T9.setTop (mkF m 27 #[.val (.int p0), .val (.int p1), .val (.int p2), .val (.int p3), .val (.int p4), .val (.long q5), .second, .val (.ref b1), .val (.ref b5), .unset, .unset, .unset, .unset, .unset, .unset, .unset, .unset, .unset, .unset, .unset, .unset] [(.ref b9), (.ref b9)])) _
    refine XS.lload X9.here hx rfl (hb hby at_27) rfl ?_
    show Steps p.tables e below (T9.setTop (mkF m 29 #[.val (.int p0), .val (.int p1), .val (.int p2), .val (.int p3), .val (.int p4), .val (.long q5), .second, .val (.ref b1), .val (.ref b5), .unset, .unset, .unset, .unset, .unset, .unset, .unset, .unset, .unset, .unset, .unset, .unset] [(.long q5), (.ref b9), (.ref b9)])) _
    refine XS.l2i X9.here hx rfl (hb hby at_29) rfl ?_
    show Steps p.tables e below (T9.setTop (mkF m 30 #[.val (.int p0), .val (.int p1), .val (.int p2), .val (.int p3), .val (.int p4), .val (.long q5), .second, .val (.ref b1), .val (.ref b5), .unset, .unset, .unset, .unset, .unset, .unset, .unset, .unset, .unset, .unset, .unset, .unset] [(.int (q5.toInt32)), (.ref b9), (.ref b9)])) _
    refine XS.lload X9.here hx rfl (hb hby at_30) rfl ?_
    show Steps p.tables e below (T9.setTop (mkF m 32 #[.val (.int p0), .val (.int p1), .val (.int p2), .val (.int p3), .val (.int p4), .val (.long q5), .second, .val (.ref b1), .val (.ref b5), .unset, .unset, .unset, .unset, .unset, .unset, .unset, .unset, .unset, .unset, .unset, .unset] [(.long q5), (.int (q5.toInt32)), (.ref b9), (.ref b9)])) _
    refine XS.bipush X9.here hx rfl (hb hby at_32) ?_
    show Steps p.tables e below (T9.setTop (mkF m 34 #[.val (.int p0), .val (.int p1), .val (.int p2), .val (.int p3), .val (.int p4), .val (.long q5), .second, .val (.ref b1), .val (.ref b5), .unset, .unset, .unset, .unset, .unset, .unset, .unset, .unset, .unset, .unset, .unset, .unset] [(.int (32 : Int32)), (.long q5), (.int (q5.toInt32)), (.ref b9), (.ref b9)])) _
    refine XS.lushr X9.here hx rfl (hb hby at_34) rfl ?_
    show Steps p.tables e below (T9.setTop (mkF m 35 #[.val (.int p0), .val (.int p1), .val (.int p2), .val (.int p3), .val (.int p4), .val (.long q5), .second, .val (.ref b1), .val (.ref b5), .unset, .unset, .unset, .unset, .unset, .unset, .unset, .unset, .unset, .unset, .unset, .unset] [(.long ((q5.toUInt64 >>> ((32 : Int32) &&& 0x3f).toInt64.toUInt64).toInt64)), (.int (q5.toInt32)), (.ref b9), (.ref b9)])) _
    refine XS.l2i X9.here hx rfl (hb hby at_35) rfl ?_
    show Steps p.tables e below (T9.setTop (mkF m 36 #[.val (.int p0), .val (.int p1), .val (.int p2), .val (.int p3), .val (.int p4), .val (.long q5), .second, .val (.ref b1), .val (.ref b5), .unset, .unset, .unset, .unset, .unset, .unset, .unset, .unset, .unset, .unset, .unset, .unset] [(.int (((q5.toUInt64 >>> ((32 : Int32) &&& 0x3f).toInt64.toUInt64).toInt64).toInt32)), (.int (q5.toInt32)), (.ref b9), (.ref b9)])) _
    refine st11.trans ?_
    show Steps p.tables e below (T11.setTop (mkF m 39 #[.val (.int p0), .val (.int p1), .val (.int p2), .val (.int p3), .val (.int p4), .val (.long q5), .second, .val (.ref b1), .val (.ref b5), .unset, .unset, .unset, .unset, .unset, .unset, .unset, .unset, .unset, .unset, .unset, .unset] [(.ref b9)])) _
    refine XS.astore X11.here hx rfl (hb hby at_39) rfl rfl (l' := #[.val (.int p0), .val (.int p1), .val (.int p2), .val (.int p3), .val (.int p4), .val (.long q5), .second, .val (.ref b1), .val (.ref b5), .val (.ref b9), .unset, .unset, .unset, .unset, .unset, .unset, .unset, .unset, .unset, .unset, .unset]) rfl ?_
    show Steps p.tables e below (T11.setTop (mkF m 41 #[.val (.int p0), .val (.int p1), .val (.int p2), .val (.int p3), .val (.int p4), .val (.long q5), .second, .val (.ref b1), .val (.ref b5), .val (.ref b9), .unset, .unset, .unset, .unset, .unset, .unset, .unset, .unset, .unset, .unset, .unset] [])) _
    refine XS.iloadN X11.here hx rfl (hb hby at_41) rfl ?_
    show Steps p.tables e below (T11.setTop (mkF m 42 #[.val (.int p0), .val (.int p1), .val (.int p2), .val (.int p3), .val (.int p4), .val (.long q5), .second, .val (.ref b1), .val (.ref b5), .val (.ref b9), .unset, .unset, .unset, .unset, .unset, .unset, .unset, .unset, .unset, .unset, .unset] [(.int p0)])) _
    refine XS.iconst X11.here hx rfl (hb hby at_42) ?_
    show Steps p.tables e below (T11.setTop (mkF m 43 #[.val (.int p0), .val (.int p1), .val (.int p2), .val (.int p3), .val (.int p4), .val (.long q5), .second, .val (.ref b1), .val (.ref b5), .val (.ref b9), .unset, .unset, .unset, .unset, .unset, .unset, .unset, .unset, .unset, .unset, .unset] [(.int (1 : Int32)), (.int p0)])) _
    refine XS.iand X11.here hx rfl (hb hby at_43) rfl ?_
    exact k
  by_cases hc44_14 : (p0 &&& (1 : Int32)) = (0 : Int32)
  · have pre15 : ∀ t, Steps p.tables e below (T11.setTop (mkF m 57 #[.val (.int p0), .val (.int p1), .val (.int p2), .val (.int p3), .val (.int p4), .val (.long q5), .second, .val (.ref b1), .val (.ref b5), .val (.ref b9), .val (.int (0 : Int32)), .unset, .unset, .unset, .unset, .unset, .unset, .unset, .unset, .unset, .unset] [(.int (p0 &&& (2 : Int32)))])) t → Steps p.tables e below (s₁.setTop (entryFrame m #[(.int p0), (.int p1), (.int p2), (.int p3), (.int p4), (.long q5)] maxLocals)) t := fun t k => by
      refine pre13 t ?_
      show Steps p.tables e below (T11.setTop (mkF m 44 #[.val (.int p0), .val (.int p1), .val (.int p2), .val (.int p3), .val (.int p4), .val (.long q5), .second, .val (.ref b1), .val (.ref b5), .val (.ref b9), .unset, .unset, .unset, .unset, .unset, .unset, .unset, .unset, .unset, .unset, .unset] [(.int (p0 &&& (1 : Int32)))])) _
      refine XS.ifYes X11.here hx rfl (pc0 := 44) (pc' := 51) rfl (hb hby at_44) rfl ((if0 _ _).trans (teq hc44_14).1) (by decide) (by decide) ?_
      show Steps p.tables e below (T11.setTop (mkF m 51 #[.val (.int p0), .val (.int p1), .val (.int p2), .val (.int p3), .val (.int p4), .val (.long q5), .second, .val (.ref b1), .val (.ref b5), .val (.ref b9), .unset, .unset, .unset, .unset, .unset, .unset, .unset, .unset, .unset, .unset, .unset] [])) _
      refine XS.iconst X11.here hx rfl (hb hby at_51) ?_
      show Steps p.tables e below (T11.setTop (mkF m 52 #[.val (.int p0), .val (.int p1), .val (.int p2), .val (.int p3), .val (.int p4), .val (.long q5), .second, .val (.ref b1), .val (.ref b5), .val (.ref b9), .unset, .unset, .unset, .unset, .unset, .unset, .unset, .unset, .unset, .unset, .unset] [(.int (0 : Int32))])) _
      refine XS.istore X11.here hx rfl (hb hby at_52) rfl (l' := #[.val (.int p0), .val (.int p1), .val (.int p2), .val (.int p3), .val (.int p4), .val (.long q5), .second, .val (.ref b1), .val (.ref b5), .val (.ref b9), .val (.int (0 : Int32)), .unset, .unset, .unset, .unset, .unset, .unset, .unset, .unset, .unset, .unset]) rfl ?_
      show Steps p.tables e below (T11.setTop (mkF m 54 #[.val (.int p0), .val (.int p1), .val (.int p2), .val (.int p3), .val (.int p4), .val (.long q5), .second, .val (.ref b1), .val (.ref b5), .val (.ref b9), .val (.int (0 : Int32)), .unset, .unset, .unset, .unset, .unset, .unset, .unset, .unset, .unset, .unset] [])) _
      refine XS.iloadN X11.here hx rfl (hb hby at_54) rfl ?_
      show Steps p.tables e below (T11.setTop (mkF m 55 #[.val (.int p0), .val (.int p1), .val (.int p2), .val (.int p3), .val (.int p4), .val (.long q5), .second, .val (.ref b1), .val (.ref b5), .val (.ref b9), .val (.int (0 : Int32)), .unset, .unset, .unset, .unset, .unset, .unset, .unset, .unset, .unset, .unset] [(.int p0)])) _
      refine XS.iconst X11.here hx rfl (hb hby at_55) ?_
      show Steps p.tables e below (T11.setTop (mkF m 56 #[.val (.int p0), .val (.int p1), .val (.int p2), .val (.int p3), .val (.int p4), .val (.long q5), .second, .val (.ref b1), .val (.ref b5), .val (.ref b9), .val (.int (0 : Int32)), .unset, .unset, .unset, .unset, .unset, .unset, .unset, .unset, .unset, .unset] [(.int (2 : Int32)), (.int p0)])) _
      refine XS.iand X11.here hx rfl (hb hby at_56) rfl ?_
      exact k
    by_cases hc57_16 : (p0 &&& (2 : Int32)) = (0 : Int32)
    · have pre17 : ∀ t, Steps p.tables e below (T11.setTop (mkF m 67 #[.val (.int p0), .val (.int p1), .val (.int p2), .val (.int p3), .val (.int p4), .val (.long q5), .second, .val (.ref b1), .val (.ref b5), .val (.ref b9), .val (.int (0 : Int32)), .val (.int (0 : Int32)), .unset, .unset, .unset, .unset, .unset, .unset, .unset, .unset, .unset] [])) t → Steps p.tables e below (s₁.setTop (entryFrame m #[(.int p0), (.int p1), (.int p2), (.int p3), (.int p4), (.long q5)] maxLocals)) t := fun t k => by
        refine pre15 t ?_
        show Steps p.tables e below (T11.setTop (mkF m 57 #[.val (.int p0), .val (.int p1), .val (.int p2), .val (.int p3), .val (.int p4), .val (.long q5), .second, .val (.ref b1), .val (.ref b5), .val (.ref b9), .val (.int (0 : Int32)), .unset, .unset, .unset, .unset, .unset, .unset, .unset, .unset, .unset, .unset] [(.int (p0 &&& (2 : Int32)))])) _
        refine XS.ifYes X11.here hx rfl (pc0 := 57) (pc' := 64) rfl (hb hby at_57) rfl ((if0 _ _).trans (teq hc57_16).1) (by decide) (by decide) ?_
        show Steps p.tables e below (T11.setTop (mkF m 64 #[.val (.int p0), .val (.int p1), .val (.int p2), .val (.int p3), .val (.int p4), .val (.long q5), .second, .val (.ref b1), .val (.ref b5), .val (.ref b9), .val (.int (0 : Int32)), .unset, .unset, .unset, .unset, .unset, .unset, .unset, .unset, .unset, .unset] [])) _
        refine XS.iconst X11.here hx rfl (hb hby at_64) ?_
        show Steps p.tables e below (T11.setTop (mkF m 65 #[.val (.int p0), .val (.int p1), .val (.int p2), .val (.int p3), .val (.int p4), .val (.long q5), .second, .val (.ref b1), .val (.ref b5), .val (.ref b9), .val (.int (0 : Int32)), .unset, .unset, .unset, .unset, .unset, .unset, .unset, .unset, .unset, .unset] [(.int (0 : Int32))])) _
        refine XS.istore X11.here hx rfl (hb hby at_65) rfl (l' := #[.val (.int p0), .val (.int p1), .val (.int p2), .val (.int p3), .val (.int p4), .val (.long q5), .second, .val (.ref b1), .val (.ref b5), .val (.ref b9), .val (.int (0 : Int32)), .val (.int (0 : Int32)), .unset, .unset, .unset, .unset, .unset, .unset, .unset, .unset, .unset]) rfl ?_
        exact k
      obtain ⟨T18, c1, Lx18, X18, e18, N18, hc1, pre18⟩ : ∃ (T18 : State) (c1 : Int32) (Lx18 : List Loc), Stand p l e room_1 s0 m #[(.int p0), (.int p1), (.int p2), (.int p3), (.int p4), (.long q5)] below meth c T18 Lx18 3 9 ∧ T18.heap = T11.heap ∧ Fr n0 Lx18 ∧ (¬ ((255 : Int32) < c1)) ∧ (∀ t, Steps p.tables e below (T18.setTop (mkF m 76 #[.val (.int p0), .val (.int p1), .val (.int p2), .val (.int p3), .val (.int p4), .val (.long q5), .second, .val (.ref b1), .val (.ref b5), .val (.ref b9), .val (.int (0 : Int32)), .val (.int (0 : Int32)), .unset, .unset, .unset, .unset, .unset, .unset, .unset, .unset, .unset] [(.int c1)])) t → Steps p.tables e below (s₁.setTop (entryFrame m #[(.int p0), (.int p1), (.int p2), (.int p3), (.int p4), (.long q5)] maxLocals)) t) := by
        have pre19 : ∀ t, Steps p.tables e below (T11.setTop (mkF m 76 #[.val (.int p0), .val (.int p1), .val (.int p2), .val (.int p3), .val (.int p4), .val (.long q5), .second, .val (.ref b1), .val (.ref b5), .val (.ref b9), .val (.int (0 : Int32)), .val (.int (0 : Int32)), .unset, .unset, .unset, .unset, .unset, .unset, .unset, .unset, .unset] [(.int ((((p0.toUInt32 >>> ((8 : Int32) &&& 31).toUInt32).toInt32) &&& (255 : Int32)).toUInt32.toUInt16.toUInt32.toInt32))])) t → Steps p.tables e below (s₁.setTop (entryFrame m #[(.int p0), (.int p1), (.int p2), (.int p3), (.int p4), (.long q5)] maxLocals)) t := fun t k => by
          refine pre17 t ?_
          show Steps p.tables e below (T11.setTop (mkF m 67 #[.val (.int p0), .val (.int p1), .val (.int p2), .val (.int p3), .val (.int p4), .val (.long q5), .second, .val (.ref b1), .val (.ref b5), .val (.ref b9), .val (.int (0 : Int32)), .val (.int (0 : Int32)), .unset, .unset, .unset, .unset, .unset, .unset, .unset, .unset, .unset] [])) _
          refine XS.iloadN X11.here hx rfl (hb hby at_67) rfl ?_
          show Steps p.tables e below (T11.setTop (mkF m 68 #[.val (.int p0), .val (.int p1), .val (.int p2), .val (.int p3), .val (.int p4), .val (.long q5), .second, .val (.ref b1), .val (.ref b5), .val (.ref b9), .val (.int (0 : Int32)), .val (.int (0 : Int32)), .unset, .unset, .unset, .unset, .unset, .unset, .unset, .unset, .unset] [(.int p0)])) _
          refine XS.bipush X11.here hx rfl (hb hby at_68) ?_
          show Steps p.tables e below (T11.setTop (mkF m 70 #[.val (.int p0), .val (.int p1), .val (.int p2), .val (.int p3), .val (.int p4), .val (.long q5), .second, .val (.ref b1), .val (.ref b5), .val (.ref b9), .val (.int (0 : Int32)), .val (.int (0 : Int32)), .unset, .unset, .unset, .unset, .unset, .unset, .unset, .unset, .unset] [(.int (8 : Int32)), (.int p0)])) _
          refine XS.iushr X11.here hx rfl (hb hby at_70) rfl ?_
          show Steps p.tables e below (T11.setTop (mkF m 71 #[.val (.int p0), .val (.int p1), .val (.int p2), .val (.int p3), .val (.int p4), .val (.long q5), .second, .val (.ref b1), .val (.ref b5), .val (.ref b9), .val (.int (0 : Int32)), .val (.int (0 : Int32)), .unset, .unset, .unset, .unset, .unset, .unset, .unset, .unset, .unset] [(.int ((p0.toUInt32 >>> ((8 : Int32) &&& 31).toUInt32).toInt32))])) _
          refine XS.sipush X11.here hx rfl (hb hby at_71) ?_
          show Steps p.tables e below (T11.setTop (mkF m 74 #[.val (.int p0), .val (.int p1), .val (.int p2), .val (.int p3), .val (.int p4), .val (.long q5), .second, .val (.ref b1), .val (.ref b5), .val (.ref b9), .val (.int (0 : Int32)), .val (.int (0 : Int32)), .unset, .unset, .unset, .unset, .unset, .unset, .unset, .unset, .unset] [(.int (255 : Int32)), (.int ((p0.toUInt32 >>> ((8 : Int32) &&& 31).toUInt32).toInt32))])) _
          refine XS.iand X11.here hx rfl (hb hby at_74) rfl ?_
          show Steps p.tables e below (T11.setTop (mkF m 75 #[.val (.int p0), .val (.int p1), .val (.int p2), .val (.int p3), .val (.int p4), .val (.long q5), .second, .val (.ref b1), .val (.ref b5), .val (.ref b9), .val (.int (0 : Int32)), .val (.int (0 : Int32)), .unset, .unset, .unset, .unset, .unset, .unset, .unset, .unset, .unset] [(.int (((p0.toUInt32 >>> ((8 : Int32) &&& 31).toUInt32).toInt32) &&& (255 : Int32)))])) _
          refine XS.i2c X11.here hx rfl (hb hby at_75) rfl ?_
          exact k
        exact ⟨T11, ((((p0.toUInt32 >>> ((8 : Int32) &&& 31).toUInt32).toInt32) &&& (255 : Int32)).toUInt32.toUInt16.toUInt32.toInt32), _, X11, rfl, N11, (own_c255 _), pre19⟩
      have pre20 : ∀ t, Steps p.tables e below (T18.setTop (mkF m 78 #[.val (.int p0), .val (.int p1), .val (.int p2), .val (.int p3), .val (.int p4), .val (.long q5), .second, .val (.ref b1), .val (.ref b5), .val (.ref b9), .val (.int (0 : Int32)), .val (.int (0 : Int32)), .val (.int c1), .unset, .unset, .unset, .unset, .unset, .unset, .unset, .unset] [])) t → Steps p.tables e below (s₁.setTop (entryFrame m #[(.int p0), (.int p1), (.int p2), (.int p3), (.int p4), (.long q5)] maxLocals)) t := fun t k => by
        refine pre18 t ?_
        show Steps p.tables e below (T18.setTop (mkF m 76 #[.val (.int p0), .val (.int p1), .val (.int p2), .val (.int p3), .val (.int p4), .val (.long q5), .second, .val (.ref b1), .val (.ref b5), .val (.ref b9), .val (.int (0 : Int32)), .val (.int (0 : Int32)), .unset, .unset, .unset, .unset, .unset, .unset, .unset, .unset, .unset] [(.int c1)])) _
        refine XS.istore X18.here hx rfl (hb hby at_76) rfl (l' := #[.val (.int p0), .val (.int p1), .val (.int p2), .val (.int p3), .val (.int p4), .val (.long q5), .second, .val (.ref b1), .val (.ref b5), .val (.ref b9), .val (.int (0 : Int32)), .val (.int (0 : Int32)), .val (.int c1), .unset, .unset, .unset, .unset, .unset, .unset, .unset, .unset]) rfl ?_
        exact k
      obtain ⟨T21, c2, Lx21, X21, e21, N21, hc2, pre21⟩ : ∃ (T21 : State) (c2 : Int32) (Lx21 : List Loc), Stand p l e room_1 s0 m #[(.int p0), (.int p1), (.int p2), (.int p3), (.int p4), (.long q5)] below meth c T21 Lx21 3 9 ∧ T21.heap = T11.heap ∧ Fr n0 Lx21 ∧ (¬ ((255 : Int32) < c2)) ∧ (∀ t, Steps p.tables e below (T21.setTop (mkF m 87 #[.val (.int p0), .val (.int p1), .val (.int p2), .val (.int p3), .val (.int p4), .val (.long q5), .second, .val (.ref b1), .val (.ref b5), .val (.ref b9), .val (.int (0 : Int32)), .val (.int (0 : Int32)), .val (.int c1), .unset, .unset, .unset, .unset, .unset, .unset, .unset, .unset] [(.int c2)])) t → Steps p.tables e below (s₁.setTop (entryFrame m #[(.int p0), (.int p1), (.int p2), (.int p3), (.int p4), (.long q5)] maxLocals)) t) := by
        have pre22 : ∀ t, Steps p.tables e below (T18.setTop (mkF m 87 #[.val (.int p0), .val (.int p1), .val (.int p2), .val (.int p3), .val (.int p4), .val (.long q5), .second, .val (.ref b1), .val (.ref b5), .val (.ref b9), .val (.int (0 : Int32)), .val (.int (0 : Int32)), .val (.int c1), .unset, .unset, .unset, .unset, .unset, .unset, .unset, .unset] [(.int ((((p0.toUInt32 >>> ((16 : Int32) &&& 31).toUInt32).toInt32) &&& (255 : Int32)).toUInt32.toUInt16.toUInt32.toInt32))])) t → Steps p.tables e below (s₁.setTop (entryFrame m #[(.int p0), (.int p1), (.int p2), (.int p3), (.int p4), (.long q5)] maxLocals)) t := fun t k => by
          refine pre20 t ?_
          show Steps p.tables e below (T18.setTop (mkF m 78 #[.val (.int p0), .val (.int p1), .val (.int p2), .val (.int p3), .val (.int p4), .val (.long q5), .second, .val (.ref b1), .val (.ref b5), .val (.ref b9), .val (.int (0 : Int32)), .val (.int (0 : Int32)), .val (.int c1), .unset, .unset, .unset, .unset, .unset, .unset, .unset, .unset] [])) _
          refine XS.iloadN X18.here hx rfl (hb hby at_78) rfl ?_
          show Steps p.tables e below (T18.setTop (mkF m 79 #[.val (.int p0), .val (.int p1), .val (.int p2), .val (.int p3), .val (.int p4), .val (.long q5), .second, .val (.ref b1), .val (.ref b5), .val (.ref b9), .val (.int (0 : Int32)), .val (.int (0 : Int32)), .val (.int c1), .unset, .unset, .unset, .unset, .unset, .unset, .unset, .unset] [(.int p0)])) _
          refine XS.bipush X18.here hx rfl (hb hby at_79) ?_
          show Steps p.tables e below (T18.setTop (mkF m 81 #[.val (.int p0), .val (.int p1), .val (.int p2), .val (.int p3), .val (.int p4), .val (.long q5), .second, .val (.ref b1), .val (.ref b5), .val (.ref b9), .val (.int (0 : Int32)), .val (.int (0 : Int32)), .val (.int c1), .unset, .unset, .unset, .unset, .unset, .unset, .unset, .unset] [(.int (16 : Int32)), (.int p0)])) _
          refine XS.iushr X18.here hx rfl (hb hby at_81) rfl ?_
          show Steps p.tables e below (T18.setTop (mkF m 82 #[.val (.int p0), .val (.int p1), .val (.int p2), .val (.int p3), .val (.int p4), .val (.long q5), .second, .val (.ref b1), .val (.ref b5), .val (.ref b9), .val (.int (0 : Int32)), .val (.int (0 : Int32)), .val (.int c1), .unset, .unset, .unset, .unset, .unset, .unset, .unset, .unset] [(.int ((p0.toUInt32 >>> ((16 : Int32) &&& 31).toUInt32).toInt32))])) _
          refine XS.sipush X18.here hx rfl (hb hby at_82) ?_
          show Steps p.tables e below (T18.setTop (mkF m 85 #[.val (.int p0), .val (.int p1), .val (.int p2), .val (.int p3), .val (.int p4), .val (.long q5), .second, .val (.ref b1), .val (.ref b5), .val (.ref b9), .val (.int (0 : Int32)), .val (.int (0 : Int32)), .val (.int c1), .unset, .unset, .unset, .unset, .unset, .unset, .unset, .unset] [(.int (255 : Int32)), (.int ((p0.toUInt32 >>> ((16 : Int32) &&& 31).toUInt32).toInt32))])) _
          refine XS.iand X18.here hx rfl (hb hby at_85) rfl ?_
          show Steps p.tables e below (T18.setTop (mkF m 86 #[.val (.int p0), .val (.int p1), .val (.int p2), .val (.int p3), .val (.int p4), .val (.long q5), .second, .val (.ref b1), .val (.ref b5), .val (.ref b9), .val (.int (0 : Int32)), .val (.int (0 : Int32)), .val (.int c1), .unset, .unset, .unset, .unset, .unset, .unset, .unset, .unset] [(.int (((p0.toUInt32 >>> ((16 : Int32) &&& 31).toUInt32).toInt32) &&& (255 : Int32)))])) _
          refine XS.i2c X18.here hx rfl (hb hby at_86) rfl ?_
          exact k
        exact ⟨T18, ((((p0.toUInt32 >>> ((16 : Int32) &&& 31).toUInt32).toInt32) &&& (255 : Int32)).toUInt32.toUInt16.toUInt32.toInt32), _, X18, e18, N18, (own_c255 _), pre22⟩
      have pre23 : ∀ t, Steps p.tables e below (T21.setTop (mkF m 89 #[.val (.int p0), .val (.int p1), .val (.int p2), .val (.int p3), .val (.int p4), .val (.long q5), .second, .val (.ref b1), .val (.ref b5), .val (.ref b9), .val (.int (0 : Int32)), .val (.int (0 : Int32)), .val (.int c1), .val (.int c2), .unset, .unset, .unset, .unset, .unset, .unset, .unset] [])) t → Steps p.tables e below (s₁.setTop (entryFrame m #[(.int p0), (.int p1), (.int p2), (.int p3), (.int p4), (.long q5)] maxLocals)) t := fun t k => by
        refine pre21 t ?_
        show Steps p.tables e below (T21.setTop (mkF m 87 #[.val (.int p0), .val (.int p1), .val (.int p2), .val (.int p3), .val (.int p4), .val (.long q5), .second, .val (.ref b1), .val (.ref b5), .val (.ref b9), .val (.int (0 : Int32)), .val (.int (0 : Int32)), .val (.int c1), .unset, .unset, .unset, .unset, .unset, .unset, .unset, .unset] [(.int c2)])) _
        refine XS.istore X21.here hx rfl (hb hby at_87) rfl (l' := #[.val (.int p0), .val (.int p1), .val (.int p2), .val (.int p3), .val (.int p4), .val (.long q5), .second, .val (.ref b1), .val (.ref b5), .val (.ref b9), .val (.int (0 : Int32)), .val (.int (0 : Int32)), .val (.int c1), .val (.int c2), .unset, .unset, .unset, .unset, .unset, .unset, .unset]) rfl ?_
        exact k
      obtain ⟨T24, c3, Lx24, X24, e24, N24, hc3, pre24⟩ : ∃ (T24 : State) (c3 : Int32) (Lx24 : List Loc), Stand p l e room_1 s0 m #[(.int p0), (.int p1), (.int p2), (.int p3), (.int p4), (.long q5)] below meth c T24 Lx24 3 9 ∧ T24.heap = T11.heap ∧ Fr n0 Lx24 ∧ (¬ ((255 : Int32) < c3)) ∧ (∀ t, Steps p.tables e below (T24.setTop (mkF m 98 #[.val (.int p0), .val (.int p1), .val (.int p2), .val (.int p3), .val (.int p4), .val (.long q5), .second, .val (.ref b1), .val (.ref b5), .val (.ref b9), .val (.int (0 : Int32)), .val (.int (0 : Int32)), .val (.int c1), .val (.int c2), .unset, .unset, .unset, .unset, .unset, .unset, .unset] [(.int c3)])) t → Steps p.tables e below (s₁.setTop (entryFrame m #[(.int p0), (.int p1), (.int p2), (.int p3), (.int p4), (.long q5)] maxLocals)) t) := by
        have pre25 : ∀ t, Steps p.tables e below (T21.setTop (mkF m 98 #[.val (.int p0), .val (.int p1), .val (.int p2), .val (.int p3), .val (.int p4), .val (.long q5), .second, .val (.ref b1), .val (.ref b5), .val (.ref b9), .val (.int (0 : Int32)), .val (.int (0 : Int32)), .val (.int c1), .val (.int c2), .unset, .unset, .unset, .unset, .unset, .unset, .unset] [(.int ((((p0.toUInt32 >>> ((24 : Int32) &&& 31).toUInt32).toInt32) &&& (255 : Int32)).toUInt32.toUInt16.toUInt32.toInt32))])) t → Steps p.tables e below (s₁.setTop (entryFrame m #[(.int p0), (.int p1), (.int p2), (.int p3), (.int p4), (.long q5)] maxLocals)) t := fun t k => by
          refine pre23 t ?_
          show Steps p.tables e below (T21.setTop (mkF m 89 #[.val (.int p0), .val (.int p1), .val (.int p2), .val (.int p3), .val (.int p4), .val (.long q5), .second, .val (.ref b1), .val (.ref b5), .val (.ref b9), .val (.int (0 : Int32)), .val (.int (0 : Int32)), .val (.int c1), .val (.int c2), .unset, .unset, .unset, .unset, .unset, .unset, .unset] [])) _
          refine XS.iloadN X21.here hx rfl (hb hby at_89) rfl ?_
          show Steps p.tables e below (T21.setTop (mkF m 90 #[.val (.int p0), .val (.int p1), .val (.int p2), .val (.int p3), .val (.int p4), .val (.long q5), .second, .val (.ref b1), .val (.ref b5), .val (.ref b9), .val (.int (0 : Int32)), .val (.int (0 : Int32)), .val (.int c1), .val (.int c2), .unset, .unset, .unset, .unset, .unset, .unset, .unset] [(.int p0)])) _
          refine XS.bipush X21.here hx rfl (hb hby at_90) ?_
          show Steps p.tables e below (T21.setTop (mkF m 92 #[.val (.int p0), .val (.int p1), .val (.int p2), .val (.int p3), .val (.int p4), .val (.long q5), .second, .val (.ref b1), .val (.ref b5), .val (.ref b9), .val (.int (0 : Int32)), .val (.int (0 : Int32)), .val (.int c1), .val (.int c2), .unset, .unset, .unset, .unset, .unset, .unset, .unset] [(.int (24 : Int32)), (.int p0)])) _
          refine XS.iushr X21.here hx rfl (hb hby at_92) rfl ?_
          show Steps p.tables e below (T21.setTop (mkF m 93 #[.val (.int p0), .val (.int p1), .val (.int p2), .val (.int p3), .val (.int p4), .val (.long q5), .second, .val (.ref b1), .val (.ref b5), .val (.ref b9), .val (.int (0 : Int32)), .val (.int (0 : Int32)), .val (.int c1), .val (.int c2), .unset, .unset, .unset, .unset, .unset, .unset, .unset] [(.int ((p0.toUInt32 >>> ((24 : Int32) &&& 31).toUInt32).toInt32))])) _
          refine XS.sipush X21.here hx rfl (hb hby at_93) ?_
          show Steps p.tables e below (T21.setTop (mkF m 96 #[.val (.int p0), .val (.int p1), .val (.int p2), .val (.int p3), .val (.int p4), .val (.long q5), .second, .val (.ref b1), .val (.ref b5), .val (.ref b9), .val (.int (0 : Int32)), .val (.int (0 : Int32)), .val (.int c1), .val (.int c2), .unset, .unset, .unset, .unset, .unset, .unset, .unset] [(.int (255 : Int32)), (.int ((p0.toUInt32 >>> ((24 : Int32) &&& 31).toUInt32).toInt32))])) _
          refine XS.iand X21.here hx rfl (hb hby at_96) rfl ?_
          show Steps p.tables e below (T21.setTop (mkF m 97 #[.val (.int p0), .val (.int p1), .val (.int p2), .val (.int p3), .val (.int p4), .val (.long q5), .second, .val (.ref b1), .val (.ref b5), .val (.ref b9), .val (.int (0 : Int32)), .val (.int (0 : Int32)), .val (.int c1), .val (.int c2), .unset, .unset, .unset, .unset, .unset, .unset, .unset] [(.int (((p0.toUInt32 >>> ((24 : Int32) &&& 31).toUInt32).toInt32) &&& (255 : Int32)))])) _
          refine XS.i2c X21.here hx rfl (hb hby at_97) rfl ?_
          exact k
        exact ⟨T21, ((((p0.toUInt32 >>> ((24 : Int32) &&& 31).toUInt32).toInt32) &&& (255 : Int32)).toUInt32.toUInt16.toUInt32.toInt32), _, X21, e21, N21, (own_c255 _), pre25⟩
      obtain ⟨T26, h26, X26, e26, E26, A26, D26, -, st26⟩ := newO X24 hx hZ hown (hw _ (List.mem_of_getElem? (i := 18) rfl)) (hw _ (List.mem_of_getElem? (i := 19) rfl)) (hw _ (List.mem_of_getElem? (i := 20) rfl)) e24 (g := (mkF m 171 #[.val (.int p0), .val (.int p1), .val (.int p2), .val (.int p3), .val (.int p4), .val (.long q5), .second, .val (.ref b1), .val (.ref b5), .val (.ref b9), .val (.int (0 : Int32)), .val (.int (0 : Int32)), .val (.int c1), .val (.int c2), .val (.int c3), .val .null, .val .null, .unset, .unset, .unset, .unset] [])) rfl (hb hby at_171) (by decide) (by decide)
      obtain ⟨b26, g26⟩ : ∃ z, z = T11.heap.size := ⟨_, rfl⟩
      rw [← g26] at A26 D26 st26
      have g_b26 : n0 ≤ b26 := Nat.le_trans Z12 (Nat.le_of_eq g26.symm)
      have Z27 : n0 ≤ h26.size := Nat.le_trans Z12 E26.1
      have F_text_b26 : Fld Z h26 b26 "com/example/semijoin/semijoin/query/Identifier" "text" "Ljava/lang/String;" .null := D26 (Or.inr (hw _ (List.mem_of_getElem? (i := 50) rfl))) (ty := (.object "java/lang/String")) (by decide)
      have F_quoted_b26 : Fld Z h26 b26 "com/example/semijoin/semijoin/query/Identifier" "quoted" "Z" (.int (0 : Int32)) := D26 (Or.inr (hw _ (List.mem_of_getElem? (i := 52) rfl))) (ty := .boolean) (by decide)
      have F_position_b26 : Fld Z h26 b26 "com/example/semijoin/semijoin/query/Identifier" "position" "Lcom/example/semijoin/semijoin/query/Position;" .null := D26 (Or.inr (hw _ (List.mem_of_getElem? (i := 54) rfl))) (ty := (.object "com/example/semijoin/semijoin/query/Position")) (by decide)
      have c28 : Sta Z h26 "java/lang/String" "COMPACT_STRINGS" "Z" (.int cs) := ((own_sta_keep ((own_sta_keep ((own_sta_keep (S_cs.ext E1) Kq3 (allS (own_plain_exa A1) all0)).ext E5) Kq7 (allS (own_plain_exa A5) all0)).ext E9) Kq11 (allS (own_plain_exa A9) all0)).ext E26)
      obtain ⟨_, _, ⟨T29, L29, k29, n29⟩, -, X29, ⟨Lc29, hQ29, l29, y29, z29⟩, st29⟩ := Jvm.LawKit.callS X26 hx (y := (⟨"java/lang/String", "valueOf", "(C)Ljava/lang/String;"⟩ : MethodName)) hown (mvT hZ (hw _ (List.mem_of_getElem? (i := 21) rfl))) (mvT hZ (hw _ (List.mem_of_getElem? (i := 22) rfl))) (mvT hZ (hw _ (List.mem_of_getElem? (i := 23) rfl))) (mvT hZ (hw _ (List.mem_of_getElem? (i := 24) rfl))) (by decide) (backOf (W := 2) (rmVO l Z a0 hw [] c3 cs h26 n0 Z27 c28 hcs hc3) hZ (hw _ (List.mem_of_getElem? (i := 24) rfl)) (hw _ (List.mem_of_getElem? (i := 23) rfl)) (by decide) (by decide)) (g := (mkF m 177 #[.val (.int p0), .val (.int p1), .val (.int p2), .val (.int p3), .val (.int p4), .val (.long q5), .second, .val (.ref b1), .val (.ref b5), .val (.ref b9), .val (.int (0 : Int32)), .val (.int (0 : Int32)), .val (.int c1), .val (.int c2), .val (.int c3), .val .null, .val .null, .unset, .unset, .unset, .unset] [(.int c3), (.ref b26), (.ref b26)])) rfl (by rw [hml]; rfl) (argsL := [(.int c3)]) (rest := [(.ref b26), (.ref b26)]) (lenOf pd_6 rfl) rfl (by show 2 * 0 + _ ≤ _; exact Nat.le_of_eq rfl) (hb hby at_177) (fun _ _ => ⟨rfl, e26, (by decide : 4 + 2 ≤ _), (by decide : 12 + 5 ≤ _)⟩)
      dsimp only [Pt.U, Pt.locs, Pt.cells, Pt.slots] at X29 l29 y29 z29 st29 hQ29
      subst l29 y29 z29
      obtain ⟨ar29, rfl, Nq29, Kq29⟩ := hQ29
      have N29 := Fr.app N24 Nq29
      have Z30 : n0 ≤ T29.heap.size := Nat.le_trans Z27 Kq29.1
      have c31 : Exa Z T29.heap b26 "com/example/semijoin/semijoin/query/Identifier" := (A26.keep Kq29)
      have c32 : Fld Z T29.heap b26 "com/example/semijoin/semijoin/query/Identifier" "text" "Ljava/lang/String;" .null := (F_text_b26.keep Kq29 nin0)
      have c33 : Fld Z T29.heap b26 "com/example/semijoin/semijoin/query/Identifier" "quoted" "Z" (.int (0 : Int32)) := (F_quoted_b26.keep Kq29 nin0)
      have c34 : Fld Z T29.heap b26 "com/example/semijoin/semijoin/query/Identifier" "position" "Lcom/example/semijoin/semijoin/query/Position;" .null := (F_position_b26.keep Kq29 nin0)
      obtain ⟨_, _, ⟨T35, L35, k35, n35⟩, -, X35, ⟨Lc35, hQ35, l35, y35, z35⟩, st35⟩ := X29.specialBack hx (y := (⟨"com/example/semijoin/semijoin/query/Identifier", "<init>", "(Ljava/lang/String;ZLcom/example/semijoin/semijoin/query/Position;)V"⟩ : MethodName)) rfl hown (mvT hZ (hw _ (List.mem_of_getElem? (i := 45) rfl))) (mvT hZ (hw _ (List.mem_of_getElem? (i := 46) rfl))) (mvT hZ (hw _ (List.mem_of_getElem? (i := 47) rfl))) (by decide) (backOf (W := 1) (rmII l Z a0 hw [] b26 ar29 (if (p0 &&& (16 : Int32)) = (0 : Int32) then (0 : Int32) else (1 : Int32)) b9 T29.heap n0 Z30 c31 c32 c33 c34 g_b26) hZ (hw _ (List.mem_of_getElem? (i := 47) rfl)) (hw _ (List.mem_of_getElem? (i := 20) rfl)) (by decide) (by decide)) (g := (mkF m 194 #[.val (.int p0), .val (.int p1), .val (.int p2), .val (.int p3), .val (.int p4), .val (.long q5), .second, .val (.ref b1), .val (.ref b5), .val (.ref b9), .val (.int (0 : Int32)), .val (.int (0 : Int32)), .val (.int c1), .val (.int c2), .val (.int c3), .val .null, .val .null, .unset, .unset, .unset, .unset] [(.ref b9), (.int (if (p0 &&& (16 : Int32)) = (0 : Int32) then (0 : Int32) else (1 : Int32))), (.ref ar29), (.ref b26), (.ref b26)])) rfl (by rw [hml]; rfl) (Steps.refl _) (a := b26) (argsL := [(.ref ar29), (.int (if (p0 &&& (16 : Int32)) = (0 : Int32) then (0 : Int32) else (1 : Int32))), (.ref b9)]) (rest := [(.ref b26)]) (lenOf pd_7 rfl) rfl (by show 2 * 0 + _ ≤ _; exact Nat.le_of_eq rfl) (hb hby at_194) (fun _ _ => ⟨rfl, rfl, (by decide : 6 + 0 ≤ _), (by decide : 17 + 0 ≤ _)⟩)
      dsimp only [Pt.U, Pt.locs, Pt.cells, Pt.slots] at X35 l35 y35 z35 st35 hQ35
      subst l35 y35 z35
      obtain ⟨rfl, Nq35, Kq35, Eq35, Fq35⟩ := hQ35
      have N35 := Fr.app N29 Nq35
      have Z36 : n0 ≤ T35.heap.size := Nat.le_trans Z30 Kq35.1
      obtain ⟨T37, h37, X37, e37, E37, A37, D37, -, st37⟩ := newO X35 hx hZ hown (hw _ (List.mem_of_getElem? (i := 55) rfl)) (hw _ (List.mem_of_getElem? (i := 56) rfl)) (hw _ (List.mem_of_getElem? (i := 57) rfl)) rfl (g := (mkF m 199 #[.val (.int p0), .val (.int p1), .val (.int p2), .val (.int p3), .val (.int p4), .val (.long q5), .second, .val (.ref b1), .val (.ref b5), .val (.ref b9), .val (.int (0 : Int32)), .val (.int (0 : Int32)), .val (.int c1), .val (.int c2), .val (.int c3), .val .null, .val .null, .val (.ref b26), .unset, .unset, .unset] [])) rfl (hb hby at_199) (by decide) (by decide)
      obtain ⟨b37, g37⟩ : ∃ z, z = T35.heap.size := ⟨_, rfl⟩
      rw [← g37] at A37 D37 st37
      have g_b37 : n0 ≤ b37 := Nat.le_trans Z36 (Nat.le_of_eq g37.symm)
      have Z38 : n0 ≤ h37.size := Nat.le_trans Z36 E37.1
      have F_schema_b37 : Fld Z h37 b37 "com/example/semijoin/semijoin/query/ColumnRef" "schema" "Lcom/example/semijoin/semijoin/query/Identifier;" .null := D37 (Or.inr (hw _ (List.mem_of_getElem? (i := 63) rfl))) (ty := (.object "com/example/semijoin/semijoin/query/Identifier")) (by decide)
      have F_qualifier_b37 : Fld Z h37 b37 "com/example/semijoin/semijoin/query/ColumnRef" "qualifier" "Lcom/example/semijoin/semijoin/query/Identifier;" .null := D37 (Or.inr (hw _ (List.mem_of_getElem? (i := 65) rfl))) (ty := (.object "com/example/semijoin/semijoin/query/Identifier")) (by decide)
      have F_name_b37 : Fld Z h37 b37 "com/example/semijoin/semijoin/query/ColumnRef" "name" "Lcom/example/semijoin/semijoin/query/Identifier;" .null := D37 (Or.inr (hw _ (List.mem_of_getElem? (i := 67) rfl))) (ty := (.object "com/example/semijoin/semijoin/query/Identifier")) (by decide)
      obtain ⟨_, _, ⟨T39, L39, k39, n39⟩, -, X39, ⟨Lc39, hQ39, l39, y39, z39⟩, st39⟩ := X37.specialBack hx (y := (⟨"com/example/semijoin/semijoin/query/ColumnRef", "<init>", "(Lcom/example/semijoin/semijoin/query/Identifier;Lcom/example/semijoin/semijoin/query/Identifier;Lcom/example/semijoin/semijoin/query/Identifier;)V"⟩ : MethodName)) rfl hown (mvT hZ (hw _ (List.mem_of_getElem? (i := 58) rfl))) (mvT hZ (hw _ (List.mem_of_getElem? (i := 59) rfl))) (mvT hZ (hw _ (List.mem_of_getElem? (i := 60) rfl))) (by decide) (backOf (W := 1) (rmCI00 l Z a0 hw [] b37 b26 h37 n0 Z38 A37 F_schema_b37 F_qualifier_b37 F_name_b37 g_b37) hZ (hw _ (List.mem_of_getElem? (i := 60) rfl)) (hw _ (List.mem_of_getElem? (i := 57) rfl)) (by decide) (by decide)) (g := (mkF m 209 #[.val (.int p0), .val (.int p1), .val (.int p2), .val (.int p3), .val (.int p4), .val (.long q5), .second, .val (.ref b1), .val (.ref b5), .val (.ref b9), .val (.int (0 : Int32)), .val (.int (0 : Int32)), .val (.int c1), .val (.int c2), .val (.int c3), .val .null, .val .null, .val (.ref b26), .unset, .unset, .unset] [(.ref b26), .null, .null, (.ref b37), (.ref b37)])) rfl (by rw [hml]; rfl) (Steps.refl _) (a := b37) (argsL := [.null, .null, (.ref b26)]) (rest := [(.ref b37)]) (lenOf pd_8 rfl) rfl (by show 2 * 0 + _ ≤ _; exact Nat.le_of_eq rfl) (hb hby at_209) (fun _ _ => ⟨rfl, e37, (by decide : 7 + 0 ≤ _), (by decide : 20 + 0 ≤ _)⟩)
      dsimp only [Pt.U, Pt.locs, Pt.cells, Pt.slots] at X39 l39 y39 z39 st39 hQ39
      subst l39 y39 z39
      obtain ⟨rfl, Nq39, Kq39, Eq39, Fs39, Fu39, Fn39⟩ := hQ39
      have N39 := Fr.app N35 Nq39
      have Z40 : n0 ≤ T39.heap.size := Nat.le_trans Z38 Kq39.1
      have c41 : Exa Z T39.heap b26 "com/example/semijoin/semijoin/query/Identifier" := ((Eq35.ext E37).keep Kq39)
      have c42 : Fld Z T39.heap b26 "com/example/semijoin/semijoin/query/Identifier" "position" "Lcom/example/semijoin/semijoin/query/Position;" (.ref b9) := ((Fq35.ext E37).keep Kq39 (ninS (Nat.ne_of_lt (Nat.lt_of_lt_of_le (Nat.lt_of_lt_of_le (Nat.lt_of_lt_of_le A26.lt Kq29.1) Kq35.1) (Nat.le_of_eq g37.symm))) nin0))
      obtain ⟨cq43, kq43, q43a, q43b, q43c⟩ := isOf hZ rfl Eq39
      obtain ⟨_, _, ⟨T43, L43, k43, n43⟩, -, X43, ⟨Lc43, hQ43, l43, y43, z43⟩, st43⟩ := X39.virtualBack hx (y := (⟨"com/example/semijoin/semijoin/query/ColumnRef", "getPosition", "()Lcom/example/semijoin/semijoin/query/Position;"⟩ : MethodName)) (z := (⟨"com/example/semijoin/semijoin/query/ColumnRef", "getPosition", "()Lcom/example/semijoin/semijoin/query/Position;"⟩ : MethodName)) hown (mvT hZ (hw _ (List.mem_of_getElem? (i := 68) rfl))) (mvT hZ (hw _ (List.mem_of_getElem? (i := 69) rfl))) (notFace_of_selects (args := #[]) (mvT hZ (hw _ (List.mem_of_getElem? (i := 71) rfl)))) (mvT hZ (hw _ (List.mem_of_getElem? (i := 71) rfl))) (mvT hZ (hw _ (List.mem_of_getElem? (i := 70) rfl))) (by decide) (backOf (W := 0) (rmCG3 l Z a0 hw [] b37 b26 b9 T39.heap n0 Z40 Fn39 Fs39 Fu39 c41 c42) hZ (hw _ (List.mem_of_getElem? (i := 72) rfl)) (hw _ (List.mem_of_getElem? (i := 57) rfl)) (by decide) (by decide)) q43a q43c (g := (mkF m 216 #[.val (.int p0), .val (.int p1), .val (.int p2), .val (.int p3), .val (.int p4), .val (.long q5), .second, .val (.ref b1), .val (.ref b5), .val (.ref b9), .val (.int (0 : Int32)), .val (.int (0 : Int32)), .val (.int c1), .val (.int c2), .val (.int c3), .val .null, .val .null, .val (.ref b26), .val (.ref b37), .unset, .unset] [(.ref b37)])) rfl (by rw [hml]; rfl) (Steps.refl _) (argsL := []) (rest := []) (lenOf pd_4 rfl) rfl (by show 2 * 0 + _ ≤ _; exact Nat.le_of_eq rfl) (hb hby at_216) (fun _ _ => ⟨rfl, rfl, (by decide : 7 + 0 ≤ _), (by decide : 20 + 0 ≤ _)⟩)
      dsimp only [Pt.U, Pt.locs, Pt.cells, Pt.slots] at X43 l43 y43 z43 st43 hQ43
      subst l43 y43 z43
      obtain ⟨rfl, Nq43, hh43⟩ := hQ43
      have N43 := Fr.app N39 Nq43
      have e43 : T43.heap = T39.heap := hh43
      have pre44 : ∀ t, Steps p.tables e below (T43.setTop (mkF m 261 #[.val (.int p0), .val (.int p1), .val (.int p2), .val (.int p3), .val (.int p4), .val (.long q5), .second, .val (.ref b1), .val (.ref b5), .val (.ref b9), .val (.int (0 : Int32)), .val (.int (0 : Int32)), .val (.int c1), .val (.int c2), .val (.int c3), .val .null, .val .null, .val (.ref b26), .val (.ref b37), .val (.ref b9), .val (.ref b9)] [(.int (1 : Int32))])) t → Steps p.tables e below (s₁.setTop (entryFrame m #[(.int p0), (.int p1), (.int p2), (.int p3), (.int p4), (.long q5)] maxLocals)) t := fun t k => by
        refine pre24 t ?_
        show Steps p.tables e below (T24.setTop (mkF m 98 #[.val (.int p0), .val (.int p1), .val (.int p2), .val (.int p3), .val (.int p4), .val (.long q5), .second, .val (.ref b1), .val (.ref b5), .val (.ref b9), .val (.int (0 : Int32)), .val (.int (0 : Int32)), .val (.int c1), .val (.int c2), .unset, .unset, .unset, .unset, .unset, .unset, .unset] [(.int c3)])) _
        refine XS.istore X24.here hx rfl (hb hby at_98) rfl (l' := #[.val (.int p0), .val (.int p1), .val (.int p2), .val (.int p3), .val (.int p4), .val (.long q5), .second, .val (.ref b1), .val (.ref b5), .val (.ref b9), .val (.int (0 : Int32)), .val (.int (0 : Int32)), .val (.int c1), .val (.int c2), .val (.int c3), .unset, .unset, .unset, .unset, .unset, .unset]) rfl ?_
        show Steps p.tables e below (T24.setTop (mkF m 100 #[.val (.int p0), .val (.int p1), .val (.int p2), .val (.int p3), .val (.int p4), .val (.long q5), .second, .val (.ref b1), .val (.ref b5), .val (.ref b9), .val (.int (0 : Int32)), .val (.int (0 : Int32)), .val (.int c1), .val (.int c2), .val (.int c3), .unset, .unset, .unset, .unset, .unset, .unset] [])) _
        refine XS.aconstNull X24.here hx rfl (hb hby at_100) ?_
        show Steps p.tables e below (T24.setTop (mkF m 101 #[.val (.int p0), .val (.int p1), .val (.int p2), .val (.int p3), .val (.int p4), .val (.long q5), .second, .val (.ref b1), .val (.ref b5), .val (.ref b9), .val (.int (0 : Int32)), .val (.int (0 : Int32)), .val (.int c1), .val (.int c2), .val (.int c3), .unset, .unset, .unset, .unset, .unset, .unset] [.null])) _
        refine XS.astore X24.here hx rfl (hb hby at_101) rfl rfl (l' := #[.val (.int p0), .val (.int p1), .val (.int p2), .val (.int p3), .val (.int p4), .val (.long q5), .second, .val (.ref b1), .val (.ref b5), .val (.ref b9), .val (.int (0 : Int32)), .val (.int (0 : Int32)), .val (.int c1), .val (.int c2), .val (.int c3), .val .null, .unset, .unset, .unset, .unset, .unset]) rfl ?_
        show Steps p.tables e below (T24.setTop (mkF m 103 #[.val (.int p0), .val (.int p1), .val (.int p2), .val (.int p3), .val (.int p4), .val (.long q5), .second, .val (.ref b1), .val (.ref b5), .val (.ref b9), .val (.int (0 : Int32)), .val (.int (0 : Int32)), .val (.int c1), .val (.int c2), .val (.int c3), .val .null, .unset, .unset, .unset, .unset, .unset] [])) _
        refine XS.iload X24.here hx rfl (hb hby at_103) rfl ?_
        show Steps p.tables e below (T24.setTop (mkF m 105 #[.val (.int p0), .val (.int p1), .val (.int p2), .val (.int p3), .val (.int p4), .val (.long q5), .second, .val (.ref b1), .val (.ref b5), .val (.ref b9), .val (.int (0 : Int32)), .val (.int (0 : Int32)), .val (.int c1), .val (.int c2), .val (.int c3), .val .null, .unset, .unset, .unset, .unset, .unset] [(.int (0 : Int32))])) _
        refine XS.ifYes X24.here hx rfl (pc0 := 105) (pc' := 135) rfl (hb hby at_105) rfl ((if0 _ _).trans (teq (by decide : (0 : Int32) = (0 : Int32))).1) (by decide) (by decide) ?_
        show Steps p.tables e below (T24.setTop (mkF m 135 #[.val (.int p0), .val (.int p1), .val (.int p2), .val (.int p3), .val (.int p4), .val (.long q5), .second, .val (.ref b1), .val (.ref b5), .val (.ref b9), .val (.int (0 : Int32)), .val (.int (0 : Int32)), .val (.int c1), .val (.int c2), .val (.int c3), .val .null, .unset, .unset, .unset, .unset, .unset] [])) _
        refine XS.aconstNull X24.here hx rfl (hb hby at_135) ?_
        show Steps p.tables e below (T24.setTop (mkF m 136 #[.val (.int p0), .val (.int p1), .val (.int p2), .val (.int p3), .val (.int p4), .val (.long q5), .second, .val (.ref b1), .val (.ref b5), .val (.ref b9), .val (.int (0 : Int32)), .val (.int (0 : Int32)), .val (.int c1), .val (.int c2), .val (.int c3), .val .null, .unset, .unset, .unset, .unset, .unset] [.null])) _
        refine XS.astore X24.here hx rfl (hb hby at_136) rfl rfl (l' := #[.val (.int p0), .val (.int p1), .val (.int p2), .val (.int p3), .val (.int p4), .val (.long q5), .second, .val (.ref b1), .val (.ref b5), .val (.ref b9), .val (.int (0 : Int32)), .val (.int (0 : Int32)), .val (.int c1), .val (.int c2), .val (.int c3), .val .null, .val .null, .unset, .unset, .unset, .unset]) rfl ?_
        show Steps p.tables e below (T24.setTop (mkF m 138 #[.val (.int p0), .val (.int p1), .val (.int p2), .val (.int p3), .val (.int p4), .val (.long q5), .second, .val (.ref b1), .val (.ref b5), .val (.ref b9), .val (.int (0 : Int32)), .val (.int (0 : Int32)), .val (.int c1), .val (.int c2), .val (.int c3), .val .null, .val .null, .unset, .unset, .unset, .unset] [])) _
        refine XS.iload X24.here hx rfl (hb hby at_138) rfl ?_
        show Steps p.tables e below (T24.setTop (mkF m 140 #[.val (.int p0), .val (.int p1), .val (.int p2), .val (.int p3), .val (.int p4), .val (.long q5), .second, .val (.ref b1), .val (.ref b5), .val (.ref b9), .val (.int (0 : Int32)), .val (.int (0 : Int32)), .val (.int c1), .val (.int c2), .val (.int c3), .val .null, .val .null, .unset, .unset, .unset, .unset] [(.int (0 : Int32))])) _
        refine XS.ifYes X24.here hx rfl (pc0 := 140) (pc' := 171) rfl (hb hby at_140) rfl ((if0 _ _).trans (teq (by decide : (0 : Int32) = (0 : Int32))).1) (by decide) (by decide) ?_
        show Steps p.tables e below (T24.setTop (mkF m 171 #[.val (.int p0), .val (.int p1), .val (.int p2), .val (.int p3), .val (.int p4), .val (.long q5), .second, .val (.ref b1), .val (.ref b5), .val (.ref b9), .val (.int (0 : Int32)), .val (.int (0 : Int32)), .val (.int c1), .val (.int c2), .val (.int c3), .val .null, .val .null, .unset, .unset, .unset, .unset] [])) _
        refine st26 _ ?_
        show Steps p.tables e below (T26.setTop (mkF m 174 #[.val (.int p0), .val (.int p1), .val (.int p2), .val (.int p3), .val (.int p4), .val (.long q5), .second, .val (.ref b1), .val (.ref b5), .val (.ref b9), .val (.int (0 : Int32)), .val (.int (0 : Int32)), .val (.int c1), .val (.int c2), .val (.int c3), .val .null, .val .null, .unset, .unset, .unset, .unset] [(.ref b26)])) _
        refine XS.dup X26.here hx rfl (hb hby at_174) rfl rfl ?_
        show Steps p.tables e below (T26.setTop (mkF m 175 #[.val (.int p0), .val (.int p1), .val (.int p2), .val (.int p3), .val (.int p4), .val (.long q5), .second, .val (.ref b1), .val (.ref b5), .val (.ref b9), .val (.int (0 : Int32)), .val (.int (0 : Int32)), .val (.int c1), .val (.int c2), .val (.int c3), .val .null, .val .null, .unset, .unset, .unset, .unset] [(.ref b26), (.ref b26)])) _
        refine XS.iload X26.here hx rfl (hb hby at_175) rfl ?_
        show Steps p.tables e below (T26.setTop (mkF m 177 #[.val (.int p0), .val (.int p1), .val (.int p2), .val (.int p3), .val (.int p4), .val (.long q5), .second, .val (.ref b1), .val (.ref b5), .val (.ref b9), .val (.int (0 : Int32)), .val (.int (0 : Int32)), .val (.int c1), .val (.int c2), .val (.int c3), .val .null, .val .null, .unset, .unset, .unset, .unset] [(.int c3), (.ref b26), (.ref b26)])) _
        refine st29 _ ?_
        show Steps p.tables e below (T29.setTop (mkF m 180 #[.val (.int p0), .val (.int p1), .val (.int p2), .val (.int p3), .val (.int p4), .val (.long q5), .second, .val (.ref b1), .val (.ref b5), .val (.ref b9), .val (.int (0 : Int32)), .val (.int (0 : Int32)), .val (.int c1), .val (.int c2), .val (.int c3), .val .null, .val .null, .unset, .unset, .unset, .unset] [(.ref ar29), (.ref b26), (.ref b26)])) _
        refine XS.iloadN X29.here hx rfl (hb hby at_180) rfl ?_
        show Steps p.tables e below (T29.setTop (mkF m 181 #[.val (.int p0), .val (.int p1), .val (.int p2), .val (.int p3), .val (.int p4), .val (.long q5), .second, .val (.ref b1), .val (.ref b5), .val (.ref b9), .val (.int (0 : Int32)), .val (.int (0 : Int32)), .val (.int c1), .val (.int c2), .val (.int c3), .val .null, .val .null, .unset, .unset, .unset, .unset] [(.int p0), (.ref ar29), (.ref b26), (.ref b26)])) _
        refine XS.bipush X29.here hx rfl (hb hby at_181) ?_
        show Steps p.tables e below (T29.setTop (mkF m 183 #[.val (.int p0), .val (.int p1), .val (.int p2), .val (.int p3), .val (.int p4), .val (.long q5), .second, .val (.ref b1), .val (.ref b5), .val (.ref b9), .val (.int (0 : Int32)), .val (.int (0 : Int32)), .val (.int c1), .val (.int c2), .val (.int c3), .val .null, .val .null, .unset, .unset, .unset, .unset] [(.int (16 : Int32)), (.int p0), (.ref ar29), (.ref b26), (.ref b26)])) _
        refine XS.iand X29.here hx rfl (hb hby at_183) rfl ?_
        show Steps p.tables e below (T29.setTop (mkF m 184 #[.val (.int p0), .val (.int p1), .val (.int p2), .val (.int p3), .val (.int p4), .val (.long q5), .second, .val (.ref b1), .val (.ref b5), .val (.ref b9), .val (.int (0 : Int32)), .val (.int (0 : Int32)), .val (.int c1), .val (.int c2), .val (.int c3), .val .null, .val .null, .unset, .unset, .unset, .unset] [(.int (p0 &&& (16 : Int32))), (.ref ar29), (.ref b26), (.ref b26)])) _
        refine own_boolI (g := (mkF m 184 #[.val (.int p0), .val (.int p1), .val (.int p2), .val (.int p3), .val (.int p4), .val (.long q5), .second, .val (.ref b1), .val (.ref b5), .val (.ref b9), .val (.int (0 : Int32)), .val (.int (0 : Int32)), .val (.int c1), .val (.int c2), .val (.int c3), .val .null, .val .null, .unset, .unset, .unset, .unset] [(.int (p0 &&& (16 : Int32))), (.ref ar29), (.ref b26), (.ref b26)])) X29.here hx rfl (hb hby at_184) (hb hby at_187) (hb hby at_188) (hb hby at_191) rfl (by exact own_b_eq _ _) ?_
        show Steps p.tables e below (T29.setTop (mkF m 192 #[.val (.int p0), .val (.int p1), .val (.int p2), .val (.int p3), .val (.int p4), .val (.long q5), .second, .val (.ref b1), .val (.ref b5), .val (.ref b9), .val (.int (0 : Int32)), .val (.int (0 : Int32)), .val (.int c1), .val (.int c2), .val (.int c3), .val .null, .val .null, .unset, .unset, .unset, .unset] [(.int (if (p0 &&& (16 : Int32)) = (0 : Int32) then (0 : Int32) else (1 : Int32))), (.ref ar29), (.ref b26), (.ref b26)])) _
        refine XS.aload X29.here hx rfl (hb hby at_192) rfl rfl ?_
        show Steps p.tables e below (T29.setTop (mkF m 194 #[.val (.int p0), .val (.int p1), .val (.int p2), .val (.int p3), .val (.int p4), .val (.long q5), .second, .val (.ref b1), .val (.ref b5), .val (.ref b9), .val (.int (0 : Int32)), .val (.int (0 : Int32)), .val (.int c1), .val (.int c2), .val (.int c3), .val .null, .val .null, .unset, .unset, .unset, .unset] [(.ref b9), (.int (if (p0 &&& (16 : Int32)) = (0 : Int32) then (0 : Int32) else (1 : Int32))), (.ref ar29), (.ref b26), (.ref b26)])) _
        refine st35.trans ?_
        show Steps p.tables e below (T35.setTop (mkF m 197 #[.val (.int p0), .val (.int p1), .val (.int p2), .val (.int p3), .val (.int p4), .val (.long q5), .second, .val (.ref b1), .val (.ref b5), .val (.ref b9), .val (.int (0 : Int32)), .val (.int (0 : Int32)), .val (.int c1), .val (.int c2), .val (.int c3), .val .null, .val .null, .unset, .unset, .unset, .unset] [(.ref b26)])) _
        refine XS.astore X35.here hx rfl (hb hby at_197) rfl rfl (l' := #[.val (.int p0), .val (.int p1), .val (.int p2), .val (.int p3), .val (.int p4), .val (.long q5), .second, .val (.ref b1), .val (.ref b5), .val (.ref b9), .val (.int (0 : Int32)), .val (.int (0 : Int32)), .val (.int c1), .val (.int c2), .val (.int c3), .val .null, .val .null, .val (.ref b26), .unset, .unset, .unset]) rfl ?_
        show Steps p.tables e below (T35.setTop (mkF m 199 #[.val (.int p0), .val (.int p1), .val (.int p2), .val (.int p3), .val (.int p4), .val (.long q5), .second, .val (.ref b1), .val (.ref b5), .val (.ref b9), .val (.int (0 : Int32)), .val (.int (0 : Int32)), .val (.int c1), .val (.int c2), .val (.int c3), .val .null, .val .null, .val (.ref b26), .unset, .unset, .unset] [])) _
        refine st37 _ ?_
        show Steps p.tables e below (T37.setTop (mkF m 202 #[.val (.int p0), .val (.int p1), .val (.int p2), .val (.int p3), .val (.int p4), .val (.long q5), .second, .val (.ref b1), .val (.ref b5), .val (.ref b9), .val (.int (0 : Int32)), .val (.int (0 : Int32)), .val (.int c1), .val (.int c2), .val (.int c3), .val .null, .val .null, .val (.ref b26), .unset, .unset, .unset] [(.ref b37)])) _
        refine XS.dup X37.here hx rfl (hb hby at_202) rfl rfl ?_
        show Steps p.tables e below (T37.setTop (mkF m 203 #[.val (.int p0), .val (.int p1), .val (.int p2), .val (.int p3), .val (.int p4), .val (.long q5), .second, .val (.ref b1), .val (.ref b5), .val (.ref b9), .val (.int (0 : Int32)), .val (.int (0 : Int32)), .val (.int c1), .val (.int c2), .val (.int c3), .val .null, .val .null, .val (.ref b26), .unset, .unset, .unset] [(.ref b37), (.ref b37)])) _
        refine XS.aload X37.here hx rfl (hb hby at_203) rfl rfl ?_
        show Steps p.tables e below (T37.setTop (mkF m 205 #[.val (.int p0), .val (.int p1), .val (.int p2), .val (.int p3), .val (.int p4), .val (.long q5), .second, .val (.ref b1), .val (.ref b5), .val (.ref b9), .val (.int (0 : Int32)), .val (.int (0 : Int32)), .val (.int c1), .val (.int c2), .val (.int c3), .val .null, .val .null, .val (.ref b26), .unset, .unset, .unset] [.null, (.ref b37), (.ref b37)])) _
        refine XS.aload X37.here hx rfl (hb hby at_205) rfl rfl ?_
        show Steps p.tables e below (T37.setTop (mkF m 207 #[.val (.int p0), .val (.int p1), .val (.int p2), .val (.int p3), .val (.int p4), .val (.long q5), .second, .val (.ref b1), .val (.ref b5), .val (.ref b9), .val (.int (0 : Int32)), .val (.int (0 : Int32)), .val (.int c1), .val (.int c2), .val (.int c3), .val .null, .val .null, .val (.ref b26), .unset, .unset, .unset] [.null, .null, (.ref b37), (.ref b37)])) _
        refine XS.aload X37.here hx rfl (hb hby at_207) rfl rfl ?_
        show Steps p.tables e below (T37.setTop (mkF m 209 #[.val (.int p0), .val (.int p1), .val (.int p2), .val (.int p3), .val (.int p4), .val (.long q5), .second, .val (.ref b1), .val (.ref b5), .val (.ref b9), .val (.int (0 : Int32)), .val (.int (0 : Int32)), .val (.int c1), .val (.int c2), .val (.int c3), .val .null, .val .null, .val (.ref b26), .unset, .unset, .unset] [(.ref b26), .null, .null, (.ref b37), (.ref b37)])) _
        refine st39.trans ?_
        show Steps p.tables e below (T39.setTop (mkF m 212 #[.val (.int p0), .val (.int p1), .val (.int p2), .val (.int p3), .val (.int p4), .val (.long q5), .second, .val (.ref b1), .val (.ref b5), .val (.ref b9), .val (.int (0 : Int32)), .val (.int (0 : Int32)), .val (.int c1), .val (.int c2), .val (.int c3), .val .null, .val .null, .val (.ref b26), .unset, .unset, .unset] [(.ref b37)])) _
        refine XS.astore X39.here hx rfl (hb hby at_212) rfl rfl (l' := #[.val (.int p0), .val (.int p1), .val (.int p2), .val (.int p3), .val (.int p4), .val (.long q5), .second, .val (.ref b1), .val (.ref b5), .val (.ref b9), .val (.int (0 : Int32)), .val (.int (0 : Int32)), .val (.int c1), .val (.int c2), .val (.int c3), .val .null, .val .null, .val (.ref b26), .val (.ref b37), .unset, .unset]) rfl ?_
        show Steps p.tables e below (T39.setTop (mkF m 214 #[.val (.int p0), .val (.int p1), .val (.int p2), .val (.int p3), .val (.int p4), .val (.long q5), .second, .val (.ref b1), .val (.ref b5), .val (.ref b9), .val (.int (0 : Int32)), .val (.int (0 : Int32)), .val (.int c1), .val (.int c2), .val (.int c3), .val .null, .val .null, .val (.ref b26), .val (.ref b37), .unset, .unset] [])) _
        refine XS.aload X39.here hx rfl (hb hby at_214) rfl rfl ?_
        show Steps p.tables e below (T39.setTop (mkF m 216 #[.val (.int p0), .val (.int p1), .val (.int p2), .val (.int p3), .val (.int p4), .val (.long q5), .second, .val (.ref b1), .val (.ref b5), .val (.ref b9), .val (.int (0 : Int32)), .val (.int (0 : Int32)), .val (.int c1), .val (.int c2), .val (.int c3), .val .null, .val .null, .val (.ref b26), .val (.ref b37), .unset, .unset] [(.ref b37)])) _
        refine st43.trans ?_
        show Steps p.tables e below (T43.setTop (mkF m 219 #[.val (.int p0), .val (.int p1), .val (.int p2), .val (.int p3), .val (.int p4), .val (.long q5), .second, .val (.ref b1), .val (.ref b5), .val (.ref b9), .val (.int (0 : Int32)), .val (.int (0 : Int32)), .val (.int c1), .val (.int c2), .val (.int c3), .val .null, .val .null, .val (.ref b26), .val (.ref b37), .unset, .unset] [(.ref b9)])) _
        refine XS.astore X43.here hx rfl (hb hby at_219) rfl rfl (l' := #[.val (.int p0), .val (.int p1), .val (.int p2), .val (.int p3), .val (.int p4), .val (.long q5), .second, .val (.ref b1), .val (.ref b5), .val (.ref b9), .val (.int (0 : Int32)), .val (.int (0 : Int32)), .val (.int c1), .val (.int c2), .val (.int c3), .val .null, .val .null, .val (.ref b26), .val (.ref b37), .val (.ref b9), .unset]) rfl ?_
        show Steps p.tables e below (T43.setTop (mkF m 221 #[.val (.int p0), .val (.int p1), .val (.int p2), .val (.int p3), .val (.int p4), .val (.long q5), .second, .val (.ref b1), .val (.ref b5), .val (.ref b9), .val (.int (0 : Int32)), .val (.int (0 : Int32)), .val (.int c1), .val (.int c2), .val (.int c3), .val .null, .val .null, .val (.ref b26), .val (.ref b37), .val (.ref b9), .unset] [])) _
        refine XS.iload X43.here hx rfl (hb hby at_221) rfl ?_
        show Steps p.tables e below (T43.setTop (mkF m 223 #[.val (.int p0), .val (.int p1), .val (.int p2), .val (.int p3), .val (.int p4), .val (.long q5), .second, .val (.ref b1), .val (.ref b5), .val (.ref b9), .val (.int (0 : Int32)), .val (.int (0 : Int32)), .val (.int c1), .val (.int c2), .val (.int c3), .val .null, .val .null, .val (.ref b26), .val (.ref b37), .val (.ref b9), .unset] [(.int (0 : Int32))])) _
        refine XS.ifYes X43.here hx rfl (pc0 := 223) (pc' := 233) rfl (hb hby at_223) rfl ((if0 _ _).trans (teq (by decide : (0 : Int32) = (0 : Int32))).1) (by decide) (by decide) ?_
        show Steps p.tables e below (T43.setTop (mkF m 233 #[.val (.int p0), .val (.int p1), .val (.int p2), .val (.int p3), .val (.int p4), .val (.long q5), .second, .val (.ref b1), .val (.ref b5), .val (.ref b9), .val (.int (0 : Int32)), .val (.int (0 : Int32)), .val (.int c1), .val (.int c2), .val (.int c3), .val .null, .val .null, .val (.ref b26), .val (.ref b37), .val (.ref b9), .unset] [])) _
        refine XS.iload X43.here hx rfl (hb hby at_233) rfl ?_
        show Steps p.tables e below (T43.setTop (mkF m 235 #[.val (.int p0), .val (.int p1), .val (.int p2), .val (.int p3), .val (.int p4), .val (.long q5), .second, .val (.ref b1), .val (.ref b5), .val (.ref b9), .val (.int (0 : Int32)), .val (.int (0 : Int32)), .val (.int c1), .val (.int c2), .val (.int c3), .val .null, .val .null, .val (.ref b26), .val (.ref b37), .val (.ref b9), .unset] [(.int (0 : Int32))])) _
        refine XS.ifYes X43.here hx rfl (pc0 := 235) (pc' := 245) rfl (hb hby at_235) rfl ((if0 _ _).trans (teq (by decide : (0 : Int32) = (0 : Int32))).1) (by decide) (by decide) ?_
        show Steps p.tables e below (T43.setTop (mkF m 245 #[.val (.int p0), .val (.int p1), .val (.int p2), .val (.int p3), .val (.int p4), .val (.long q5), .second, .val (.ref b1), .val (.ref b5), .val (.ref b9), .val (.int (0 : Int32)), .val (.int (0 : Int32)), .val (.int c1), .val (.int c2), .val (.int c3), .val .null, .val .null, .val (.ref b26), .val (.ref b37), .val (.ref b9), .unset] [])) _
        refine XS.aload X43.here hx rfl (hb hby at_245) rfl rfl ?_
        show Steps p.tables e below (T43.setTop (mkF m 247 #[.val (.int p0), .val (.int p1), .val (.int p2), .val (.int p3), .val (.int p4), .val (.long q5), .second, .val (.ref b1), .val (.ref b5), .val (.ref b9), .val (.int (0 : Int32)), .val (.int (0 : Int32)), .val (.int c1), .val (.int c2), .val (.int c3), .val .null, .val .null, .val (.ref b26), .val (.ref b37), .val (.ref b9), .unset] [(.ref b9)])) _
        refine XS.astore X43.here hx rfl (hb hby at_247) rfl rfl (l' := #[.val (.int p0), .val (.int p1), .val (.int p2), .val (.int p3), .val (.int p4), .val (.long q5), .second, .val (.ref b1), .val (.ref b5), .val (.ref b9), .val (.int (0 : Int32)), .val (.int (0 : Int32)), .val (.int c1), .val (.int c2), .val (.int c3), .val .null, .val .null, .val (.ref b26), .val (.ref b37), .val (.ref b9), .val (.ref b9)]) rfl ?_
        show Steps p.tables e below (T43.setTop (mkF m 249 #[.val (.int p0), .val (.int p1), .val (.int p2), .val (.int p3), .val (.int p4), .val (.long q5), .second, .val (.ref b1), .val (.ref b5), .val (.ref b9), .val (.int (0 : Int32)), .val (.int (0 : Int32)), .val (.int c1), .val (.int c2), .val (.int c3), .val .null, .val .null, .val (.ref b26), .val (.ref b37), .val (.ref b9), .val (.ref b9)] [])) _
        refine XS.aload X43.here hx rfl (hb hby at_249) rfl rfl ?_
        show Steps p.tables e below (T43.setTop (mkF m 251 #[.val (.int p0), .val (.int p1), .val (.int p2), .val (.int p3), .val (.int p4), .val (.long q5), .second, .val (.ref b1), .val (.ref b5), .val (.ref b9), .val (.int (0 : Int32)), .val (.int (0 : Int32)), .val (.int c1), .val (.int c2), .val (.int c3), .val .null, .val .null, .val (.ref b26), .val (.ref b37), .val (.ref b9), .val (.ref b9)] [(.ref b9)])) _
        refine XS.aload X43.here hx rfl (hb hby at_251) rfl rfl ?_
        show Steps p.tables e below (T43.setTop (mkF m 253 #[.val (.int p0), .val (.int p1), .val (.int p2), .val (.int p3), .val (.int p4), .val (.long q5), .second, .val (.ref b1), .val (.ref b5), .val (.ref b9), .val (.int (0 : Int32)), .val (.int (0 : Int32)), .val (.int c1), .val (.int c2), .val (.int c3), .val .null, .val .null, .val (.ref b26), .val (.ref b37), .val (.ref b9), .val (.ref b9)] [(.ref b9), (.ref b9)])) _
        refine Jvm.RoadKit.acmp (g := (mkF m 253 #[.val (.int p0), .val (.int p1), .val (.int p2), .val (.int p3), .val (.int p4), .val (.long q5), .second, .val (.ref b1), .val (.ref b5), .val (.ref b9), .val (.int (0 : Int32)), .val (.int (0 : Int32)), .val (.int c1), .val (.int c2), .val (.int c3), .val .null, .val .null, .val (.ref b26), .val (.ref b37), .val (.ref b9), .val (.ref b9)] [(.ref b9), (.ref b9)])) X43 hx rfl rfl rfl (pc0 := 253) (pc' := 256) (same := true) rfl (hb hby at_253) rfl (decide_eq_true rfl) (by decide) (by decide) ?_
        show Steps p.tables e below (T43.setTop (mkF m 256 #[.val (.int p0), .val (.int p1), .val (.int p2), .val (.int p3), .val (.int p4), .val (.long q5), .second, .val (.ref b1), .val (.ref b5), .val (.ref b9), .val (.int (0 : Int32)), .val (.int (0 : Int32)), .val (.int c1), .val (.int c2), .val (.int c3), .val .null, .val .null, .val (.ref b26), .val (.ref b37), .val (.ref b9), .val (.ref b9)] [])) _
        refine XS.iconst X43.here hx rfl (hb hby at_256) ?_
        show Steps p.tables e below (T43.setTop (mkF m 257 #[.val (.int p0), .val (.int p1), .val (.int p2), .val (.int p3), .val (.int p4), .val (.long q5), .second, .val (.ref b1), .val (.ref b5), .val (.ref b9), .val (.int (0 : Int32)), .val (.int (0 : Int32)), .val (.int c1), .val (.int c2), .val (.int c3), .val .null, .val .null, .val (.ref b26), .val (.ref b37), .val (.ref b9), .val (.ref b9)] [(.int (1 : Int32))])) _
        refine XS.goto X43.here hx rfl (pc0 := 257) (pc' := 261) rfl (hb hby at_257) (by decide) (by decide) ?_
        exact k
      obtain ⟨fs, hrq, hrun, hended, hW, hsame⟩ := X43.leave (v := some (.int (1 : Int32))) (fun h => by rw [Bd.returns] at h; cases h)
      refine ⟨_, _, pre44 _ ?_, hrun, hended, _, _, rfl, ?_, ⟨_, rfl⟩, hW, hsame.mono (by decide) (by decide)⟩
      · show Steps p.tables e below (T43.setTop (mkF m 261 #[.val (.int p0), .val (.int p1), .val (.int p2), .val (.int p3), .val (.int p4), .val (.long q5), .second, .val (.ref b1), .val (.ref b5), .val (.ref b9), .val (.int (0 : Int32)), .val (.int (0 : Int32)), .val (.int c1), .val (.int c2), .val (.int c3), .val .null, .val .null, .val (.ref b26), .val (.ref b37), .val (.ref b9), .val (.ref b9)] [(.int (1 : Int32))])) _
        exact retN X43 hx (t := .boolean) Bd.returns (by simp) (hb hby at_261) hrq
      · show Q0 Z p0 p1 p2 p3 p4 q5 cs h0 n0 _ T43.heap _
        rw [e43]
        exact ⟨rfl, N43⟩
    · have pre45 : ∀ t, Steps p.tables e below (T11.setTop (mkF m 67 #[.val (.int p0), .val (.int p1), .val (.int p2), .val (.int p3), .val (.int p4), .val (.long q5), .second, .val (.ref b1), .val (.ref b5), .val (.ref b9), .val (.int (0 : Int32)), .val (.int (1 : Int32)), .unset, .unset, .unset, .unset, .unset, .unset, .unset, .unset, .unset] [])) t → Steps p.tables e below (s₁.setTop (entryFrame m #[(.int p0), (.int p1), (.int p2), (.int p3), (.int p4), (.long q5)] maxLocals)) t := fun t k => by
        refine pre15 t ?_
        show Steps p.tables e below (T11.setTop (mkF m 57 #[.val (.int p0), .val (.int p1), .val (.int p2), .val (.int p3), .val (.int p4), .val (.long q5), .second, .val (.ref b1), .val (.ref b5), .val (.ref b9), .val (.int (0 : Int32)), .unset, .unset, .unset, .unset, .unset, .unset, .unset, .unset, .unset, .unset] [(.int (p0 &&& (2 : Int32)))])) _
        refine XS.ifNo X11.here hx rfl (hb hby at_57) rfl ((if0 _ _).trans (feq hc57_16).1) ?_
        show Steps p.tables e below (T11.setTop (mkF m 60 #[.val (.int p0), .val (.int p1), .val (.int p2), .val (.int p3), .val (.int p4), .val (.long q5), .second, .val (.ref b1), .val (.ref b5), .val (.ref b9), .val (.int (0 : Int32)), .unset, .unset, .unset, .unset, .unset, .unset, .unset, .unset, .unset, .unset] [])) _
        refine XS.iconst X11.here hx rfl (hb hby at_60) ?_
        show Steps p.tables e below (T11.setTop (mkF m 61 #[.val (.int p0), .val (.int p1), .val (.int p2), .val (.int p3), .val (.int p4), .val (.long q5), .second, .val (.ref b1), .val (.ref b5), .val (.ref b9), .val (.int (0 : Int32)), .unset, .unset, .unset, .unset, .unset, .unset, .unset, .unset, .unset, .unset] [(.int (1 : Int32))])) _
        refine XS.goto X11.here hx rfl (pc0 := 61) (pc' := 65) rfl (hb hby at_61) (by decide) (by decide) ?_
        show Steps p.tables e below (T11.setTop (mkF m 65 #[.val (.int p0), .val (.int p1), .val (.int p2), .val (.int p3), .val (.int p4), .val (.long q5), .second, .val (.ref b1), .val (.ref b5), .val (.ref b9), .val (.int (0 : Int32)), .unset, .unset, .unset, .unset, .unset, .unset, .unset, .unset, .unset, .unset] [(.int (1 : Int32))])) _
        refine XS.istore X11.here hx rfl (hb hby at_65) rfl (l' := #[.val (.int p0), .val (.int p1), .val (.int p2), .val (.int p3), .val (.int p4), .val (.long q5), .second, .val (.ref b1), .val (.ref b5), .val (.ref b9), .val (.int (0 : Int32)), .val (.int (1 : Int32)), .unset, .unset, .unset, .unset, .unset, .unset, .unset, .unset, .unset]) rfl ?_
        exact k
      obtain ⟨T46, c1, Lx46, X46, e46, N46, hc1, pre46⟩ : ∃ (T46 : State) (c1 : Int32) (Lx46 : List Loc), Stand p l e room_1 s0 m #[(.int p0), (.int p1), (.int p2), (.int p3), (.int p4), (.long q5)] below meth c T46 Lx46 3 9 ∧ T46.heap = T11.heap ∧ Fr n0 Lx46 ∧ (¬ ((255 : Int32) < c1)) ∧ (∀ t, Steps p.tables e below (T46.setTop (mkF m 76 #[.val (.int p0), .val (.int p1), .val (.int p2), .val (.int p3), .val (.int p4), .val (.long q5), .second, .val (.ref b1), .val (.ref b5), .val (.ref b9), .val (.int (0 : Int32)), .val (.int (1 : Int32)), .unset, .unset, .unset, .unset, .unset, .unset, .unset, .unset, .unset] [(.int c1)])) t → Steps p.tables e below (s₁.setTop (entryFrame m #[(.int p0), (.int p1), (.int p2), (.int p3), (.int p4), (.long q5)] maxLocals)) t) := by
        have pre47 : ∀ t, Steps p.tables e below (T11.setTop (mkF m 76 #[.val (.int p0), .val (.int p1), .val (.int p2), .val (.int p3), .val (.int p4), .val (.long q5), .second, .val (.ref b1), .val (.ref b5), .val (.ref b9), .val (.int (0 : Int32)), .val (.int (1 : Int32)), .unset, .unset, .unset, .unset, .unset, .unset, .unset, .unset, .unset] [(.int ((((p0.toUInt32 >>> ((8 : Int32) &&& 31).toUInt32).toInt32) &&& (255 : Int32)).toUInt32.toUInt16.toUInt32.toInt32))])) t → Steps p.tables e below (s₁.setTop (entryFrame m #[(.int p0), (.int p1), (.int p2), (.int p3), (.int p4), (.long q5)] maxLocals)) t := fun t k => by
          refine pre45 t ?_
          show Steps p.tables e below (T11.setTop (mkF m 67 #[.val (.int p0), .val (.int p1), .val (.int p2), .val (.int p3), .val (.int p4), .val (.long q5), .second, .val (.ref b1), .val (.ref b5), .val (.ref b9), .val (.int (0 : Int32)), .val (.int (1 : Int32)), .unset, .unset, .unset, .unset, .unset, .unset, .unset, .unset, .unset] [])) _
          refine XS.iloadN X11.here hx rfl (hb hby at_67) rfl ?_
          show Steps p.tables e below (T11.setTop (mkF m 68 #[.val (.int p0), .val (.int p1), .val (.int p2), .val (.int p3), .val (.int p4), .val (.long q5), .second, .val (.ref b1), .val (.ref b5), .val (.ref b9), .val (.int (0 : Int32)), .val (.int (1 : Int32)), .unset, .unset, .unset, .unset, .unset, .unset, .unset, .unset, .unset] [(.int p0)])) _
          refine XS.bipush X11.here hx rfl (hb hby at_68) ?_
          show Steps p.tables e below (T11.setTop (mkF m 70 #[.val (.int p0), .val (.int p1), .val (.int p2), .val (.int p3), .val (.int p4), .val (.long q5), .second, .val (.ref b1), .val (.ref b5), .val (.ref b9), .val (.int (0 : Int32)), .val (.int (1 : Int32)), .unset, .unset, .unset, .unset, .unset, .unset, .unset, .unset, .unset] [(.int (8 : Int32)), (.int p0)])) _
          refine XS.iushr X11.here hx rfl (hb hby at_70) rfl ?_
          show Steps p.tables e below (T11.setTop (mkF m 71 #[.val (.int p0), .val (.int p1), .val (.int p2), .val (.int p3), .val (.int p4), .val (.long q5), .second, .val (.ref b1), .val (.ref b5), .val (.ref b9), .val (.int (0 : Int32)), .val (.int (1 : Int32)), .unset, .unset, .unset, .unset, .unset, .unset, .unset, .unset, .unset] [(.int ((p0.toUInt32 >>> ((8 : Int32) &&& 31).toUInt32).toInt32))])) _
          refine XS.sipush X11.here hx rfl (hb hby at_71) ?_
          show Steps p.tables e below (T11.setTop (mkF m 74 #[.val (.int p0), .val (.int p1), .val (.int p2), .val (.int p3), .val (.int p4), .val (.long q5), .second, .val (.ref b1), .val (.ref b5), .val (.ref b9), .val (.int (0 : Int32)), .val (.int (1 : Int32)), .unset, .unset, .unset, .unset, .unset, .unset, .unset, .unset, .unset] [(.int (255 : Int32)), (.int ((p0.toUInt32 >>> ((8 : Int32) &&& 31).toUInt32).toInt32))])) _
          refine XS.iand X11.here hx rfl (hb hby at_74) rfl ?_
          show Steps p.tables e below (T11.setTop (mkF m 75 #[.val (.int p0), .val (.int p1), .val (.int p2), .val (.int p3), .val (.int p4), .val (.long q5), .second, .val (.ref b1), .val (.ref b5), .val (.ref b9), .val (.int (0 : Int32)), .val (.int (1 : Int32)), .unset, .unset, .unset, .unset, .unset, .unset, .unset, .unset, .unset] [(.int (((p0.toUInt32 >>> ((8 : Int32) &&& 31).toUInt32).toInt32) &&& (255 : Int32)))])) _
          refine XS.i2c X11.here hx rfl (hb hby at_75) rfl ?_
          exact k
        exact ⟨T11, ((((p0.toUInt32 >>> ((8 : Int32) &&& 31).toUInt32).toInt32) &&& (255 : Int32)).toUInt32.toUInt16.toUInt32.toInt32), _, X11, rfl, N11, (own_c255 _), pre47⟩
      have pre48 : ∀ t, Steps p.tables e below (T46.setTop (mkF m 78 #[.val (.int p0), .val (.int p1), .val (.int p2), .val (.int p3), .val (.int p4), .val (.long q5), .second, .val (.ref b1), .val (.ref b5), .val (.ref b9), .val (.int (0 : Int32)), .val (.int (1 : Int32)), .val (.int c1), .unset, .unset, .unset, .unset, .unset, .unset, .unset, .unset] [])) t → Steps p.tables e below (s₁.setTop (entryFrame m #[(.int p0), (.int p1), (.int p2), (.int p3), (.int p4), (.long q5)] maxLocals)) t := fun t k => by
        refine pre46 t ?_
        show Steps p.tables e below (T46.setTop (mkF m 76 #[.val (.int p0), .val (.int p1), .val (.int p2), .val (.int p3), .val (.int p4), .val (.long q5), .second, .val (.ref b1), .val (.ref b5), .val (.ref b9), .val (.int (0 : Int32)), .val (.int (1 : Int32)), .unset, .unset, .unset, .unset, .unset, .unset, .unset, .unset, .unset] [(.int c1)])) _
        refine XS.istore X46.here hx rfl (hb hby at_76) rfl (l' := #[.val (.int p0), .val (.int p1), .val (.int p2), .val (.int p3), .val (.int p4), .val (.long q5), .second, .val (.ref b1), .val (.ref b5), .val (.ref b9), .val (.int (0 : Int32)), .val (.int (1 : Int32)), .val (.int c1), .unset, .unset, .unset, .unset, .unset, .unset, .unset, .unset]) rfl ?_
        exact k
      obtain ⟨T49, c2, Lx49, X49, e49, N49, hc2, pre49⟩ : ∃ (T49 : State) (c2 : Int32) (Lx49 : List Loc), Stand p l e room_1 s0 m #[(.int p0), (.int p1), (.int p2), (.int p3), (.int p4), (.long q5)] below meth c T49 Lx49 3 9 ∧ T49.heap = T11.heap ∧ Fr n0 Lx49 ∧ (¬ ((255 : Int32) < c2)) ∧ (∀ t, Steps p.tables e below (T49.setTop (mkF m 87 #[.val (.int p0), .val (.int p1), .val (.int p2), .val (.int p3), .val (.int p4), .val (.long q5), .second, .val (.ref b1), .val (.ref b5), .val (.ref b9), .val (.int (0 : Int32)), .val (.int (1 : Int32)), .val (.int c1), .unset, .unset, .unset, .unset, .unset, .unset, .unset, .unset] [(.int c2)])) t → Steps p.tables e below (s₁.setTop (entryFrame m #[(.int p0), (.int p1), (.int p2), (.int p3), (.int p4), (.long q5)] maxLocals)) t) := by
        have pre50 : ∀ t, Steps p.tables e below (T46.setTop (mkF m 87 #[.val (.int p0), .val (.int p1), .val (.int p2), .val (.int p3), .val (.int p4), .val (.long q5), .second, .val (.ref b1), .val (.ref b5), .val (.ref b9), .val (.int (0 : Int32)), .val (.int (1 : Int32)), .val (.int c1), .unset, .unset, .unset, .unset, .unset, .unset, .unset, .unset] [(.int ((((p0.toUInt32 >>> ((16 : Int32) &&& 31).toUInt32).toInt32) &&& (255 : Int32)).toUInt32.toUInt16.toUInt32.toInt32))])) t → Steps p.tables e below (s₁.setTop (entryFrame m #[(.int p0), (.int p1), (.int p2), (.int p3), (.int p4), (.long q5)] maxLocals)) t := fun t k => by
          refine pre48 t ?_
          show Steps p.tables e below (T46.setTop (mkF m 78 #[.val (.int p0), .val (.int p1), .val (.int p2), .val (.int p3), .val (.int p4), .val (.long q5), .second, .val (.ref b1), .val (.ref b5), .val (.ref b9), .val (.int (0 : Int32)), .val (.int (1 : Int32)), .val (.int c1), .unset, .unset, .unset, .unset, .unset, .unset, .unset, .unset] [])) _
          refine XS.iloadN X46.here hx rfl (hb hby at_78) rfl ?_
          show Steps p.tables e below (T46.setTop (mkF m 79 #[.val (.int p0), .val (.int p1), .val (.int p2), .val (.int p3), .val (.int p4), .val (.long q5), .second, .val (.ref b1), .val (.ref b5), .val (.ref b9), .val (.int (0 : Int32)), .val (.int (1 : Int32)), .val (.int c1), .unset, .unset, .unset, .unset, .unset, .unset, .unset, .unset] [(.int p0)])) _
          refine XS.bipush X46.here hx rfl (hb hby at_79) ?_
          show Steps p.tables e below (T46.setTop (mkF m 81 #[.val (.int p0), .val (.int p1), .val (.int p2), .val (.int p3), .val (.int p4), .val (.long q5), .second, .val (.ref b1), .val (.ref b5), .val (.ref b9), .val (.int (0 : Int32)), .val (.int (1 : Int32)), .val (.int c1), .unset, .unset, .unset, .unset, .unset, .unset, .unset, .unset] [(.int (16 : Int32)), (.int p0)])) _
          refine XS.iushr X46.here hx rfl (hb hby at_81) rfl ?_
          show Steps p.tables e below (T46.setTop (mkF m 82 #[.val (.int p0), .val (.int p1), .val (.int p2), .val (.int p3), .val (.int p4), .val (.long q5), .second, .val (.ref b1), .val (.ref b5), .val (.ref b9), .val (.int (0 : Int32)), .val (.int (1 : Int32)), .val (.int c1), .unset, .unset, .unset, .unset, .unset, .unset, .unset, .unset] [(.int ((p0.toUInt32 >>> ((16 : Int32) &&& 31).toUInt32).toInt32))])) _
          refine XS.sipush X46.here hx rfl (hb hby at_82) ?_
          show Steps p.tables e below (T46.setTop (mkF m 85 #[.val (.int p0), .val (.int p1), .val (.int p2), .val (.int p3), .val (.int p4), .val (.long q5), .second, .val (.ref b1), .val (.ref b5), .val (.ref b9), .val (.int (0 : Int32)), .val (.int (1 : Int32)), .val (.int c1), .unset, .unset, .unset, .unset, .unset, .unset, .unset, .unset] [(.int (255 : Int32)), (.int ((p0.toUInt32 >>> ((16 : Int32) &&& 31).toUInt32).toInt32))])) _
          refine XS.iand X46.here hx rfl (hb hby at_85) rfl ?_
          show Steps p.tables e below (T46.setTop (mkF m 86 #[.val (.int p0), .val (.int p1), .val (.int p2), .val (.int p3), .val (.int p4), .val (.long q5), .second, .val (.ref b1), .val (.ref b5), .val (.ref b9), .val (.int (0 : Int32)), .val (.int (1 : Int32)), .val (.int c1), .unset, .unset, .unset, .unset, .unset, .unset, .unset, .unset] [(.int (((p0.toUInt32 >>> ((16 : Int32) &&& 31).toUInt32).toInt32) &&& (255 : Int32)))])) _
          refine XS.i2c X46.here hx rfl (hb hby at_86) rfl ?_
          exact k
        exact ⟨T46, ((((p0.toUInt32 >>> ((16 : Int32) &&& 31).toUInt32).toInt32) &&& (255 : Int32)).toUInt32.toUInt16.toUInt32.toInt32), _, X46, e46, N46, (own_c255 _), pre50⟩
      have pre51 : ∀ t, Steps p.tables e below (T49.setTop (mkF m 89 #[.val (.int p0), .val (.int p1), .val (.int p2), .val (.int p3), .val (.int p4), .val (.long q5), .second, .val (.ref b1), .val (.ref b5), .val (.ref b9), .val (.int (0 : Int32)), .val (.int (1 : Int32)), .val (.int c1), .val (.int c2), .unset, .unset, .unset, .unset, .unset, .unset, .unset] [])) t → Steps p.tables e below (s₁.setTop (entryFrame m #[(.int p0), (.int p1), (.int p2), (.int p3), (.int p4), (.long q5)] maxLocals)) t := fun t k => by
        refine pre49 t ?_
        show Steps p.tables e below (T49.setTop (mkF m 87 #[.val (.int p0), .val (.int p1), .val (.int p2), .val (.int p3), .val (.int p4), .val (.long q5), .second, .val (.ref b1), .val (.ref b5), .val (.ref b9), .val (.int (0 : Int32)), .val (.int (1 : Int32)), .val (.int c1), .unset, .unset, .unset, .unset, .unset, .unset, .unset, .unset] [(.int c2)])) _
        refine XS.istore X49.here hx rfl (hb hby at_87) rfl (l' := #[.val (.int p0), .val (.int p1), .val (.int p2), .val (.int p3), .val (.int p4), .val (.long q5), .second, .val (.ref b1), .val (.ref b5), .val (.ref b9), .val (.int (0 : Int32)), .val (.int (1 : Int32)), .val (.int c1), .val (.int c2), .unset, .unset, .unset, .unset, .unset, .unset, .unset]) rfl ?_
        exact k
      obtain ⟨T52, c3, Lx52, X52, e52, N52, hc3, pre52⟩ : ∃ (T52 : State) (c3 : Int32) (Lx52 : List Loc), Stand p l e room_1 s0 m #[(.int p0), (.int p1), (.int p2), (.int p3), (.int p4), (.long q5)] below meth c T52 Lx52 3 9 ∧ T52.heap = T11.heap ∧ Fr n0 Lx52 ∧ (¬ ((255 : Int32) < c3)) ∧ (∀ t, Steps p.tables e below (T52.setTop (mkF m 98 #[.val (.int p0), .val (.int p1), .val (.int p2), .val (.int p3), .val (.int p4), .val (.long q5), .second, .val (.ref b1), .val (.ref b5), .val (.ref b9), .val (.int (0 : Int32)), .val (.int (1 : Int32)), .val (.int c1), .val (.int c2), .unset, .unset, .unset, .unset, .unset, .unset, .unset] [(.int c3)])) t → Steps p.tables e below (s₁.setTop (entryFrame m #[(.int p0), (.int p1), (.int p2), (.int p3), (.int p4), (.long q5)] maxLocals)) t) := by
        have pre53 : ∀ t, Steps p.tables e below (T49.setTop (mkF m 98 #[.val (.int p0), .val (.int p1), .val (.int p2), .val (.int p3), .val (.int p4), .val (.long q5), .second, .val (.ref b1), .val (.ref b5), .val (.ref b9), .val (.int (0 : Int32)), .val (.int (1 : Int32)), .val (.int c1), .val (.int c2), .unset, .unset, .unset, .unset, .unset, .unset, .unset] [(.int ((((p0.toUInt32 >>> ((24 : Int32) &&& 31).toUInt32).toInt32) &&& (255 : Int32)).toUInt32.toUInt16.toUInt32.toInt32))])) t → Steps p.tables e below (s₁.setTop (entryFrame m #[(.int p0), (.int p1), (.int p2), (.int p3), (.int p4), (.long q5)] maxLocals)) t := fun t k => by
          refine pre51 t ?_
          show Steps p.tables e below (T49.setTop (mkF m 89 #[.val (.int p0), .val (.int p1), .val (.int p2), .val (.int p3), .val (.int p4), .val (.long q5), .second, .val (.ref b1), .val (.ref b5), .val (.ref b9), .val (.int (0 : Int32)), .val (.int (1 : Int32)), .val (.int c1), .val (.int c2), .unset, .unset, .unset, .unset, .unset, .unset, .unset] [])) _
          refine XS.iloadN X49.here hx rfl (hb hby at_89) rfl ?_
          show Steps p.tables e below (T49.setTop (mkF m 90 #[.val (.int p0), .val (.int p1), .val (.int p2), .val (.int p3), .val (.int p4), .val (.long q5), .second, .val (.ref b1), .val (.ref b5), .val (.ref b9), .val (.int (0 : Int32)), .val (.int (1 : Int32)), .val (.int c1), .val (.int c2), .unset, .unset, .unset, .unset, .unset, .unset, .unset] [(.int p0)])) _
          refine XS.bipush X49.here hx rfl (hb hby at_90) ?_
          show Steps p.tables e below (T49.setTop (mkF m 92 #[.val (.int p0), .val (.int p1), .val (.int p2), .val (.int p3), .val (.int p4), .val (.long q5), .second, .val (.ref b1), .val (.ref b5), .val (.ref b9), .val (.int (0 : Int32)), .val (.int (1 : Int32)), .val (.int c1), .val (.int c2), .unset, .unset, .unset, .unset, .unset, .unset, .unset] [(.int (24 : Int32)), (.int p0)])) _
          refine XS.iushr X49.here hx rfl (hb hby at_92) rfl ?_
          show Steps p.tables e below (T49.setTop (mkF m 93 #[.val (.int p0), .val (.int p1), .val (.int p2), .val (.int p3), .val (.int p4), .val (.long q5), .second, .val (.ref b1), .val (.ref b5), .val (.ref b9), .val (.int (0 : Int32)), .val (.int (1 : Int32)), .val (.int c1), .val (.int c2), .unset, .unset, .unset, .unset, .unset, .unset, .unset] [(.int ((p0.toUInt32 >>> ((24 : Int32) &&& 31).toUInt32).toInt32))])) _
          refine XS.sipush X49.here hx rfl (hb hby at_93) ?_
          show Steps p.tables e below (T49.setTop (mkF m 96 #[.val (.int p0), .val (.int p1), .val (.int p2), .val (.int p3), .val (.int p4), .val (.long q5), .second, .val (.ref b1), .val (.ref b5), .val (.ref b9), .val (.int (0 : Int32)), .val (.int (1 : Int32)), .val (.int c1), .val (.int c2), .unset, .unset, .unset, .unset, .unset, .unset, .unset] [(.int (255 : Int32)), (.int ((p0.toUInt32 >>> ((24 : Int32) &&& 31).toUInt32).toInt32))])) _
          refine XS.iand X49.here hx rfl (hb hby at_96) rfl ?_
          show Steps p.tables e below (T49.setTop (mkF m 97 #[.val (.int p0), .val (.int p1), .val (.int p2), .val (.int p3), .val (.int p4), .val (.long q5), .second, .val (.ref b1), .val (.ref b5), .val (.ref b9), .val (.int (0 : Int32)), .val (.int (1 : Int32)), .val (.int c1), .val (.int c2), .unset, .unset, .unset, .unset, .unset, .unset, .unset] [(.int (((p0.toUInt32 >>> ((24 : Int32) &&& 31).toUInt32).toInt32) &&& (255 : Int32)))])) _
          refine XS.i2c X49.here hx rfl (hb hby at_97) rfl ?_
          exact k
        exact ⟨T49, ((((p0.toUInt32 >>> ((24 : Int32) &&& 31).toUInt32).toInt32) &&& (255 : Int32)).toUInt32.toUInt16.toUInt32.toInt32), _, X49, e49, N49, (own_c255 _), pre53⟩
      obtain ⟨T54, h54, X54, e54, E54, A54, D54, -, st54⟩ := newO X52 hx hZ hown (hw _ (List.mem_of_getElem? (i := 18) rfl)) (hw _ (List.mem_of_getElem? (i := 19) rfl)) (hw _ (List.mem_of_getElem? (i := 20) rfl)) e52 (g := (mkF m 143 #[.val (.int p0), .val (.int p1), .val (.int p2), .val (.int p3), .val (.int p4), .val (.long q5), .second, .val (.ref b1), .val (.ref b5), .val (.ref b9), .val (.int (0 : Int32)), .val (.int (1 : Int32)), .val (.int c1), .val (.int c2), .val (.int c3), .val .null, .val .null, .unset, .unset, .unset, .unset] [])) rfl (hb hby at_143) (by decide) (by decide)
      obtain ⟨b54, g54⟩ : ∃ z, z = T11.heap.size := ⟨_, rfl⟩
      rw [← g54] at A54 D54 st54
      have g_b54 : n0 ≤ b54 := Nat.le_trans Z12 (Nat.le_of_eq g54.symm)
      have Z55 : n0 ≤ h54.size := Nat.le_trans Z12 E54.1
      have F_text_b54 : Fld Z h54 b54 "com/example/semijoin/semijoin/query/Identifier" "text" "Ljava/lang/String;" .null := D54 (Or.inr (hw _ (List.mem_of_getElem? (i := 50) rfl))) (ty := (.object "java/lang/String")) (by decide)
      have F_quoted_b54 : Fld Z h54 b54 "com/example/semijoin/semijoin/query/Identifier" "quoted" "Z" (.int (0 : Int32)) := D54 (Or.inr (hw _ (List.mem_of_getElem? (i := 52) rfl))) (ty := .boolean) (by decide)
      have F_position_b54 : Fld Z h54 b54 "com/example/semijoin/semijoin/query/Identifier" "position" "Lcom/example/semijoin/semijoin/query/Position;" .null := D54 (Or.inr (hw _ (List.mem_of_getElem? (i := 54) rfl))) (ty := (.object "com/example/semijoin/semijoin/query/Position")) (by decide)
      have c56 : Sta Z h54 "java/lang/String" "COMPACT_STRINGS" "Z" (.int cs) := ((own_sta_keep ((own_sta_keep ((own_sta_keep (S_cs.ext E1) Kq3 (allS (own_plain_exa A1) all0)).ext E5) Kq7 (allS (own_plain_exa A5) all0)).ext E9) Kq11 (allS (own_plain_exa A9) all0)).ext E54)
      obtain ⟨_, _, ⟨T57, L57, k57, n57⟩, -, X57, ⟨Lc57, hQ57, l57, y57, z57⟩, st57⟩ := Jvm.LawKit.callS X54 hx (y := (⟨"java/lang/String", "valueOf", "(C)Ljava/lang/String;"⟩ : MethodName)) hown (mvT hZ (hw _ (List.mem_of_getElem? (i := 21) rfl))) (mvT hZ (hw _ (List.mem_of_getElem? (i := 22) rfl))) (mvT hZ (hw _ (List.mem_of_getElem? (i := 23) rfl))) (mvT hZ (hw _ (List.mem_of_getElem? (i := 24) rfl))) (by decide) (backOf (W := 2) (rmVO l Z a0 hw [] c2 cs h54 n0 Z55 c56 hcs hc2) hZ (hw _ (List.mem_of_getElem? (i := 24) rfl)) (hw _ (List.mem_of_getElem? (i := 23) rfl)) (by decide) (by decide)) (g := (mkF m 149 #[.val (.int p0), .val (.int p1), .val (.int p2), .val (.int p3), .val (.int p4), .val (.long q5), .second, .val (.ref b1), .val (.ref b5), .val (.ref b9), .val (.int (0 : Int32)), .val (.int (1 : Int32)), .val (.int c1), .val (.int c2), .val (.int c3), .val .null, .val .null, .unset, .unset, .unset, .unset] [(.int c2), (.ref b54), (.ref b54)])) rfl (by rw [hml]; rfl) (argsL := [(.int c2)]) (rest := [(.ref b54), (.ref b54)]) (lenOf pd_6 rfl) rfl (by show 2 * 0 + _ ≤ _; exact Nat.le_of_eq rfl) (hb hby at_149) (fun _ _ => ⟨rfl, e54, (by decide : 4 + 2 ≤ _), (by decide : 12 + 5 ≤ _)⟩)
      dsimp only [Pt.U, Pt.locs, Pt.cells, Pt.slots] at X57 l57 y57 z57 st57 hQ57
      subst l57 y57 z57
      obtain ⟨ar57, rfl, Nq57, Kq57⟩ := hQ57
      have N57 := Fr.app N52 Nq57
      have Z58 : n0 ≤ T57.heap.size := Nat.le_trans Z55 Kq57.1
      have c59 : Exa Z T57.heap b54 "com/example/semijoin/semijoin/query/Identifier" := (A54.keep Kq57)
      have c60 : Fld Z T57.heap b54 "com/example/semijoin/semijoin/query/Identifier" "text" "Ljava/lang/String;" .null := (F_text_b54.keep Kq57 nin0)
      have c61 : Fld Z T57.heap b54 "com/example/semijoin/semijoin/query/Identifier" "quoted" "Z" (.int (0 : Int32)) := (F_quoted_b54.keep Kq57 nin0)
      have c62 : Fld Z T57.heap b54 "com/example/semijoin/semijoin/query/Identifier" "position" "Lcom/example/semijoin/semijoin/query/Position;" .null := (F_position_b54.keep Kq57 nin0)
      obtain ⟨_, _, ⟨T63, L63, k63, n63⟩, -, X63, ⟨Lc63, hQ63, l63, y63, z63⟩, st63⟩ := X57.specialBack hx (y := (⟨"com/example/semijoin/semijoin/query/Identifier", "<init>", "(Ljava/lang/String;ZLcom/example/semijoin/semijoin/query/Position;)V"⟩ : MethodName)) rfl hown (mvT hZ (hw _ (List.mem_of_getElem? (i := 45) rfl))) (mvT hZ (hw _ (List.mem_of_getElem? (i := 46) rfl))) (mvT hZ (hw _ (List.mem_of_getElem? (i := 47) rfl))) (by decide) (backOf (W := 1) (rmII l Z a0 hw [] b54 ar57 (if (p0 &&& (8 : Int32)) = (0 : Int32) then (0 : Int32) else (1 : Int32)) b5 T57.heap n0 Z58 c59 c60 c61 c62 g_b54) hZ (hw _ (List.mem_of_getElem? (i := 47) rfl)) (hw _ (List.mem_of_getElem? (i := 20) rfl)) (by decide) (by decide)) (g := (mkF m 166 #[.val (.int p0), .val (.int p1), .val (.int p2), .val (.int p3), .val (.int p4), .val (.long q5), .second, .val (.ref b1), .val (.ref b5), .val (.ref b9), .val (.int (0 : Int32)), .val (.int (1 : Int32)), .val (.int c1), .val (.int c2), .val (.int c3), .val .null, .val .null, .unset, .unset, .unset, .unset] [(.ref b5), (.int (if (p0 &&& (8 : Int32)) = (0 : Int32) then (0 : Int32) else (1 : Int32))), (.ref ar57), (.ref b54), (.ref b54)])) rfl (by rw [hml]; rfl) (Steps.refl _) (a := b54) (argsL := [(.ref ar57), (.int (if (p0 &&& (8 : Int32)) = (0 : Int32) then (0 : Int32) else (1 : Int32))), (.ref b5)]) (rest := [(.ref b54)]) (lenOf pd_7 rfl) rfl (by show 2 * 0 + _ ≤ _; exact Nat.le_of_eq rfl) (hb hby at_166) (fun _ _ => ⟨rfl, rfl, (by decide : 6 + 0 ≤ _), (by decide : 17 + 0 ≤ _)⟩)
      dsimp only [Pt.U, Pt.locs, Pt.cells, Pt.slots] at X63 l63 y63 z63 st63 hQ63
      subst l63 y63 z63
      obtain ⟨rfl, Nq63, Kq63, Eq63, Fq63⟩ := hQ63
      have N63 := Fr.app N57 Nq63
      have Z64 : n0 ≤ T63.heap.size := Nat.le_trans Z58 Kq63.1
      obtain ⟨T65, h65, X65, e65, E65, A65, D65, -, st65⟩ := newO X63 hx hZ hown (hw _ (List.mem_of_getElem? (i := 18) rfl)) (hw _ (List.mem_of_getElem? (i := 19) rfl)) (hw _ (List.mem_of_getElem? (i := 20) rfl)) rfl (g := (mkF m 171 #[.val (.int p0), .val (.int p1), .val (.int p2), .val (.int p3), .val (.int p4), .val (.long q5), .second, .val (.ref b1), .val (.ref b5), .val (.ref b9), .val (.int (0 : Int32)), .val (.int (1 : Int32)), .val (.int c1), .val (.int c2), .val (.int c3), .val .null, .val (.ref b54), .unset, .unset, .unset, .unset] [])) rfl (hb hby at_171) (by decide) (by decide)
      obtain ⟨b65, g65⟩ : ∃ z, z = T63.heap.size := ⟨_, rfl⟩
      rw [← g65] at A65 D65 st65
      have g_b65 : n0 ≤ b65 := Nat.le_trans Z64 (Nat.le_of_eq g65.symm)
      have Z66 : n0 ≤ h65.size := Nat.le_trans Z64 E65.1
      have F_text_b65 : Fld Z h65 b65 "com/example/semijoin/semijoin/query/Identifier" "text" "Ljava/lang/String;" .null := D65 (Or.inr (hw _ (List.mem_of_getElem? (i := 50) rfl))) (ty := (.object "java/lang/String")) (by decide)
      have F_quoted_b65 : Fld Z h65 b65 "com/example/semijoin/semijoin/query/Identifier" "quoted" "Z" (.int (0 : Int32)) := D65 (Or.inr (hw _ (List.mem_of_getElem? (i := 52) rfl))) (ty := .boolean) (by decide)
      have F_position_b65 : Fld Z h65 b65 "com/example/semijoin/semijoin/query/Identifier" "position" "Lcom/example/semijoin/semijoin/query/Position;" .null := D65 (Or.inr (hw _ (List.mem_of_getElem? (i := 54) rfl))) (ty := (.object "com/example/semijoin/semijoin/query/Position")) (by decide)
      have c67 : Sta Z h65 "java/lang/String" "COMPACT_STRINGS" "Z" (.int cs) := ((own_sta_keep (own_sta_keep c56 Kq57 all0) Kq63 (allS (own_plain_exa c59) all0)).ext E65)
      obtain ⟨_, _, ⟨T68, L68, k68, n68⟩, -, X68, ⟨Lc68, hQ68, l68, y68, z68⟩, st68⟩ := Jvm.LawKit.callS X65 hx (y := (⟨"java/lang/String", "valueOf", "(C)Ljava/lang/String;"⟩ : MethodName)) hown (mvT hZ (hw _ (List.mem_of_getElem? (i := 21) rfl))) (mvT hZ (hw _ (List.mem_of_getElem? (i := 22) rfl))) (mvT hZ (hw _ (List.mem_of_getElem? (i := 23) rfl))) (mvT hZ (hw _ (List.mem_of_getElem? (i := 24) rfl))) (by decide) (backOf (W := 2) (rmVO l Z a0 hw [] c3 cs h65 n0 Z66 c67 hcs hc3) hZ (hw _ (List.mem_of_getElem? (i := 24) rfl)) (hw _ (List.mem_of_getElem? (i := 23) rfl)) (by decide) (by decide)) (g := (mkF m 177 #[.val (.int p0), .val (.int p1), .val (.int p2), .val (.int p3), .val (.int p4), .val (.long q5), .second, .val (.ref b1), .val (.ref b5), .val (.ref b9), .val (.int (0 : Int32)), .val (.int (1 : Int32)), .val (.int c1), .val (.int c2), .val (.int c3), .val .null, .val (.ref b54), .unset, .unset, .unset, .unset] [(.int c3), (.ref b65), (.ref b65)])) rfl (by rw [hml]; rfl) (argsL := [(.int c3)]) (rest := [(.ref b65), (.ref b65)]) (lenOf pd_6 rfl) rfl (by show 2 * 0 + _ ≤ _; exact Nat.le_of_eq rfl) (hb hby at_177) (fun _ _ => ⟨rfl, e65, (by decide : 7 + 2 ≤ _), (by decide : 20 + 5 ≤ _)⟩)
      dsimp only [Pt.U, Pt.locs, Pt.cells, Pt.slots] at X68 l68 y68 z68 st68 hQ68
      subst l68 y68 z68
      obtain ⟨ar68, rfl, Nq68, Kq68⟩ := hQ68
      have N68 := Fr.app N63 Nq68
      have Z69 : n0 ≤ T68.heap.size := Nat.le_trans Z66 Kq68.1
      have c70 : Exa Z T68.heap b65 "com/example/semijoin/semijoin/query/Identifier" := (A65.keep Kq68)
      have c71 : Fld Z T68.heap b65 "com/example/semijoin/semijoin/query/Identifier" "text" "Ljava/lang/String;" .null := (F_text_b65.keep Kq68 nin0)
      have c72 : Fld Z T68.heap b65 "com/example/semijoin/semijoin/query/Identifier" "quoted" "Z" (.int (0 : Int32)) := (F_quoted_b65.keep Kq68 nin0)
      have c73 : Fld Z T68.heap b65 "com/example/semijoin/semijoin/query/Identifier" "position" "Lcom/example/semijoin/semijoin/query/Position;" .null := (F_position_b65.keep Kq68 nin0)
      obtain ⟨_, _, ⟨T74, L74, k74, n74⟩, -, X74, ⟨Lc74, hQ74, l74, y74, z74⟩, st74⟩ := X68.specialBack hx (y := (⟨"com/example/semijoin/semijoin/query/Identifier", "<init>", "(Ljava/lang/String;ZLcom/example/semijoin/semijoin/query/Position;)V"⟩ : MethodName)) rfl hown (mvT hZ (hw _ (List.mem_of_getElem? (i := 45) rfl))) (mvT hZ (hw _ (List.mem_of_getElem? (i := 46) rfl))) (mvT hZ (hw _ (List.mem_of_getElem? (i := 47) rfl))) (by decide) (backOf (W := 1) (rmII l Z a0 hw [] b65 ar68 (if (p0 &&& (16 : Int32)) = (0 : Int32) then (0 : Int32) else (1 : Int32)) b9 T68.heap n0 Z69 c70 c71 c72 c73 g_b65) hZ (hw _ (List.mem_of_getElem? (i := 47) rfl)) (hw _ (List.mem_of_getElem? (i := 20) rfl)) (by decide) (by decide)) (g := (mkF m 194 #[.val (.int p0), .val (.int p1), .val (.int p2), .val (.int p3), .val (.int p4), .val (.long q5), .second, .val (.ref b1), .val (.ref b5), .val (.ref b9), .val (.int (0 : Int32)), .val (.int (1 : Int32)), .val (.int c1), .val (.int c2), .val (.int c3), .val .null, .val (.ref b54), .unset, .unset, .unset, .unset] [(.ref b9), (.int (if (p0 &&& (16 : Int32)) = (0 : Int32) then (0 : Int32) else (1 : Int32))), (.ref ar68), (.ref b65), (.ref b65)])) rfl (by rw [hml]; rfl) (Steps.refl _) (a := b65) (argsL := [(.ref ar68), (.int (if (p0 &&& (16 : Int32)) = (0 : Int32) then (0 : Int32) else (1 : Int32))), (.ref b9)]) (rest := [(.ref b65)]) (lenOf pd_7 rfl) rfl (by show 2 * 0 + _ ≤ _; exact Nat.le_of_eq rfl) (hb hby at_194) (fun _ _ => ⟨rfl, rfl, (by decide : 9 + 0 ≤ _), (by decide : 25 + 0 ≤ _)⟩)
      dsimp only [Pt.U, Pt.locs, Pt.cells, Pt.slots] at X74 l74 y74 z74 st74 hQ74
      subst l74 y74 z74
      obtain ⟨rfl, Nq74, Kq74, Eq74, Fq74⟩ := hQ74
      have N74 := Fr.app N68 Nq74
      have Z75 : n0 ≤ T74.heap.size := Nat.le_trans Z69 Kq74.1
      obtain ⟨T76, h76, X76, e76, E76, A76, D76, -, st76⟩ := newO X74 hx hZ hown (hw _ (List.mem_of_getElem? (i := 55) rfl)) (hw _ (List.mem_of_getElem? (i := 56) rfl)) (hw _ (List.mem_of_getElem? (i := 57) rfl)) rfl (g := (mkF m 199 #[.val (.int p0), .val (.int p1), .val (.int p2), .val (.int p3), .val (.int p4), .val (.long q5), .second, .val (.ref b1), .val (.ref b5), .val (.ref b9), .val (.int (0 : Int32)), .val (.int (1 : Int32)), .val (.int c1), .val (.int c2), .val (.int c3), .val .null, .val (.ref b54), .val (.ref b65), .unset, .unset, .unset] [])) rfl (hb hby at_199) (by decide) (by decide)
      obtain ⟨b76, g76⟩ : ∃ z, z = T74.heap.size := ⟨_, rfl⟩
      rw [← g76] at A76 D76 st76
      have g_b76 : n0 ≤ b76 := Nat.le_trans Z75 (Nat.le_of_eq g76.symm)
      have Z77 : n0 ≤ h76.size := Nat.le_trans Z75 E76.1
      have F_schema_b76 : Fld Z h76 b76 "com/example/semijoin/semijoin/query/ColumnRef" "schema" "Lcom/example/semijoin/semijoin/query/Identifier;" .null := D76 (Or.inr (hw _ (List.mem_of_getElem? (i := 63) rfl))) (ty := (.object "com/example/semijoin/semijoin/query/Identifier")) (by decide)
      have F_qualifier_b76 : Fld Z h76 b76 "com/example/semijoin/semijoin/query/ColumnRef" "qualifier" "Lcom/example/semijoin/semijoin/query/Identifier;" .null := D76 (Or.inr (hw _ (List.mem_of_getElem? (i := 65) rfl))) (ty := (.object "com/example/semijoin/semijoin/query/Identifier")) (by decide)
      have F_name_b76 : Fld Z h76 b76 "com/example/semijoin/semijoin/query/ColumnRef" "name" "Lcom/example/semijoin/semijoin/query/Identifier;" .null := D76 (Or.inr (hw _ (List.mem_of_getElem? (i := 67) rfl))) (ty := (.object "com/example/semijoin/semijoin/query/Identifier")) (by decide)
      obtain ⟨_, _, ⟨T78, L78, k78, n78⟩, -, X78, ⟨Lc78, hQ78, l78, y78, z78⟩, st78⟩ := X76.specialBack hx (y := (⟨"com/example/semijoin/semijoin/query/ColumnRef", "<init>", "(Lcom/example/semijoin/semijoin/query/Identifier;Lcom/example/semijoin/semijoin/query/Identifier;Lcom/example/semijoin/semijoin/query/Identifier;)V"⟩ : MethodName)) rfl hown (mvT hZ (hw _ (List.mem_of_getElem? (i := 58) rfl))) (mvT hZ (hw _ (List.mem_of_getElem? (i := 59) rfl))) (mvT hZ (hw _ (List.mem_of_getElem? (i := 60) rfl))) (by decide) (backOf (W := 1) (rmCI01 l Z a0 hw [] b76 b54 b65 h76 n0 Z77 A76 F_schema_b76 F_qualifier_b76 F_name_b76 g_b76) hZ (hw _ (List.mem_of_getElem? (i := 60) rfl)) (hw _ (List.mem_of_getElem? (i := 57) rfl)) (by decide) (by decide)) (g := (mkF m 209 #[.val (.int p0), .val (.int p1), .val (.int p2), .val (.int p3), .val (.int p4), .val (.long q5), .second, .val (.ref b1), .val (.ref b5), .val (.ref b9), .val (.int (0 : Int32)), .val (.int (1 : Int32)), .val (.int c1), .val (.int c2), .val (.int c3), .val .null, .val (.ref b54), .val (.ref b65), .unset, .unset, .unset] [(.ref b65), (.ref b54), .null, (.ref b76), (.ref b76)])) rfl (by rw [hml]; rfl) (Steps.refl _) (a := b76) (argsL := [.null, (.ref b54), (.ref b65)]) (rest := [(.ref b76)]) (lenOf pd_8 rfl) rfl (by show 2 * 0 + _ ≤ _; exact Nat.le_of_eq rfl) (hb hby at_209) (fun _ _ => ⟨rfl, e76, (by decide : 10 + 0 ≤ _), (by decide : 28 + 0 ≤ _)⟩)
      dsimp only [Pt.U, Pt.locs, Pt.cells, Pt.slots] at X78 l78 y78 z78 st78 hQ78
      subst l78 y78 z78
      obtain ⟨rfl, Nq78, Kq78, Eq78, Fs78, Fu78, Fn78⟩ := hQ78
      have N78 := Fr.app N74 Nq78
      have Z79 : n0 ≤ T78.heap.size := Nat.le_trans Z77 Kq78.1
      have c80 : Exa Z T78.heap b54 "com/example/semijoin/semijoin/query/Identifier" := (((((Eq63.ext E65).keep Kq68).keep Kq74).ext E76).keep Kq78)
      have c81 : Exa Z T78.heap b65 "com/example/semijoin/semijoin/query/Identifier" := ((Eq74.ext E76).keep Kq78)
      have c82 : Fld Z T78.heap b54 "com/example/semijoin/semijoin/query/Identifier" "position" "Lcom/example/semijoin/semijoin/query/Position;" (.ref b5) := (((((Fq63.ext E65).keep Kq68 nin0).keep Kq74 (ninS (Nat.ne_of_lt (Nat.lt_of_lt_of_le (Nat.lt_of_lt_of_le (Nat.lt_of_lt_of_le A54.lt Kq57.1) Kq63.1) (Nat.le_of_eq g65.symm))) nin0)).ext E76).keep Kq78 (ninS (Nat.ne_of_lt (Nat.lt_of_lt_of_le (Nat.lt_of_lt_of_le (Nat.lt_of_lt_of_le (Nat.lt_of_lt_of_le (Nat.lt_of_lt_of_le (Nat.lt_of_lt_of_le A54.lt Kq57.1) Kq63.1) E65.1) Kq68.1) Kq74.1) (Nat.le_of_eq g76.symm))) nin0))
      have c83 : Fld Z T78.heap b65 "com/example/semijoin/semijoin/query/Identifier" "position" "Lcom/example/semijoin/semijoin/query/Position;" (.ref b9) := ((Fq74.ext E76).keep Kq78 (ninS (Nat.ne_of_lt (Nat.lt_of_lt_of_le (Nat.lt_of_lt_of_le (Nat.lt_of_lt_of_le A65.lt Kq68.1) Kq74.1) (Nat.le_of_eq g76.symm))) nin0))
      obtain ⟨cq84, kq84, q84a, q84b, q84c⟩ := isOf hZ rfl Eq78
      obtain ⟨_, _, ⟨T84, L84, k84, n84⟩, -, X84, ⟨Lc84, hQ84, l84, y84, z84⟩, st84⟩ := X78.virtualBack hx (y := (⟨"com/example/semijoin/semijoin/query/ColumnRef", "getPosition", "()Lcom/example/semijoin/semijoin/query/Position;"⟩ : MethodName)) (z := (⟨"com/example/semijoin/semijoin/query/ColumnRef", "getPosition", "()Lcom/example/semijoin/semijoin/query/Position;"⟩ : MethodName)) hown (mvT hZ (hw _ (List.mem_of_getElem? (i := 68) rfl))) (mvT hZ (hw _ (List.mem_of_getElem? (i := 69) rfl))) (notFace_of_selects (args := #[]) (mvT hZ (hw _ (List.mem_of_getElem? (i := 71) rfl)))) (mvT hZ (hw _ (List.mem_of_getElem? (i := 71) rfl))) (mvT hZ (hw _ (List.mem_of_getElem? (i := 70) rfl))) (by decide) (backOf (W := 0) (rmCG2 l Z a0 hw [] b76 b54 b65 b5 b9 T78.heap n0 Z79 Fn78 Fs78 Fu78 c80 c81 c82 c83) hZ (hw _ (List.mem_of_getElem? (i := 72) rfl)) (hw _ (List.mem_of_getElem? (i := 57) rfl)) (by decide) (by decide)) q84a q84c (g := (mkF m 216 #[.val (.int p0), .val (.int p1), .val (.int p2), .val (.int p3), .val (.int p4), .val (.long q5), .second, .val (.ref b1), .val (.ref b5), .val (.ref b9), .val (.int (0 : Int32)), .val (.int (1 : Int32)), .val (.int c1), .val (.int c2), .val (.int c3), .val .null, .val (.ref b54), .val (.ref b65), .val (.ref b76), .unset, .unset] [(.ref b76)])) rfl (by rw [hml]; rfl) (Steps.refl _) (argsL := []) (rest := []) (lenOf pd_4 rfl) rfl (by show 2 * 0 + _ ≤ _; exact Nat.le_of_eq rfl) (hb hby at_216) (fun _ _ => ⟨rfl, rfl, (by decide : 10 + 0 ≤ _), (by decide : 28 + 0 ≤ _)⟩)
      dsimp only [Pt.U, Pt.locs, Pt.cells, Pt.slots] at X84 l84 y84 z84 st84 hQ84
      subst l84 y84 z84
      obtain ⟨rfl, Nq84, hh84⟩ := hQ84
      have N84 := Fr.app N78 Nq84
      have e84 : T84.heap = T78.heap := hh84
      have pre85 : ∀ t, Steps p.tables e below (T84.setTop (mkF m 261 #[.val (.int p0), .val (.int p1), .val (.int p2), .val (.int p3), .val (.int p4), .val (.long q5), .second, .val (.ref b1), .val (.ref b5), .val (.ref b9), .val (.int (0 : Int32)), .val (.int (1 : Int32)), .val (.int c1), .val (.int c2), .val (.int c3), .val .null, .val (.ref b54), .val (.ref b65), .val (.ref b76), .val (.ref b5), .val (.ref b5)] [(.int (1 : Int32))])) t → Steps p.tables e below (s₁.setTop (entryFrame m #[(.int p0), (.int p1), (.int p2), (.int p3), (.int p4), (.long q5)] maxLocals)) t := fun t k => by
        refine pre52 t ?_
        show Steps p.tables e below (T52.setTop (mkF m 98 #[.val (.int p0), .val (.int p1), .val (.int p2), .val (.int p3), .val (.int p4), .val (.long q5), .second, .val (.ref b1), .val (.ref b5), .val (.ref b9), .val (.int (0 : Int32)), .val (.int (1 : Int32)), .val (.int c1), .val (.int c2), .unset, .unset, .unset, .unset, .unset, .unset, .unset] [(.int c3)])) _
        refine XS.istore X52.here hx rfl (hb hby at_98) rfl (l' := #[.val (.int p0), .val (.int p1), .val (.int p2), .val (.int p3), .val (.int p4), .val (.long q5), .second, .val (.ref b1), .val (.ref b5), .val (.ref b9), .val (.int (0 : Int32)), .val (.int (1 : Int32)), .val (.int c1), .val (.int c2), .val (.int c3), .unset, .unset, .unset, .unset, .unset, .unset]) rfl ?_
        show Steps p.tables e below (T52.setTop (mkF m 100 #[.val (.int p0), .val (.int p1), .val (.int p2), .val (.int p3), .val (.int p4), .val (.long q5), .second, .val (.ref b1), .val (.ref b5), .val (.ref b9), .val (.int (0 : Int32)), .val (.int (1 : Int32)), .val (.int c1), .val (.int c2), .val (.int c3), .unset, .unset, .unset, .unset, .unset, .unset] [])) _
        refine XS.aconstNull X52.here hx rfl (hb hby at_100) ?_
        show Steps p.tables e below (T52.setTop (mkF m 101 #[.val (.int p0), .val (.int p1), .val (.int p2), .val (.int p3), .val (.int p4), .val (.long q5), .second, .val (.ref b1), .val (.ref b5), .val (.ref b9), .val (.int (0 : Int32)), .val (.int (1 : Int32)), .val (.int c1), .val (.int c2), .val (.int c3), .unset, .unset, .unset, .unset, .unset, .unset] [.null])) _
        refine XS.astore X52.here hx rfl (hb hby at_101) rfl rfl (l' := #[.val (.int p0), .val (.int p1), .val (.int p2), .val (.int p3), .val (.int p4), .val (.long q5), .second, .val (.ref b1), .val (.ref b5), .val (.ref b9), .val (.int (0 : Int32)), .val (.int (1 : Int32)), .val (.int c1), .val (.int c2), .val (.int c3), .val .null, .unset, .unset, .unset, .unset, .unset]) rfl ?_
        show Steps p.tables e below (T52.setTop (mkF m 103 #[.val (.int p0), .val (.int p1), .val (.int p2), .val (.int p3), .val (.int p4), .val (.long q5), .second, .val (.ref b1), .val (.ref b5), .val (.ref b9), .val (.int (0 : Int32)), .val (.int (1 : Int32)), .val (.int c1), .val (.int c2), .val (.int c3), .val .null, .unset, .unset, .unset, .unset, .unset] [])) _
        refine XS.iload X52.here hx rfl (hb hby at_103) rfl ?_
        show Steps p.tables e below (T52.setTop (mkF m 105 #[.val (.int p0), .val (.int p1), .val (.int p2), .val (.int p3), .val (.int p4), .val (.long q5), .second, .val (.ref b1), .val (.ref b5), .val (.ref b9), .val (.int (0 : Int32)), .val (.int (1 : Int32)), .val (.int c1), .val (.int c2), .val (.int c3), .val .null, .unset, .unset, .unset, .unset, .unset] [(.int (0 : Int32))])) _
        refine XS.ifYes X52.here hx rfl (pc0 := 105) (pc' := 135) rfl (hb hby at_105) rfl ((if0 _ _).trans (teq (by decide : (0 : Int32) = (0 : Int32))).1) (by decide) (by decide) ?_
        show Steps p.tables e below (T52.setTop (mkF m 135 #[.val (.int p0), .val (.int p1), .val (.int p2), .val (.int p3), .val (.int p4), .val (.long q5), .second, .val (.ref b1), .val (.ref b5), .val (.ref b9), .val (.int (0 : Int32)), .val (.int (1 : Int32)), .val (.int c1), .val (.int c2), .val (.int c3), .val .null, .unset, .unset, .unset, .unset, .unset] [])) _
        refine XS.aconstNull X52.here hx rfl (hb hby at_135) ?_
        show Steps p.tables e below (T52.setTop (mkF m 136 #[.val (.int p0), .val (.int p1), .val (.int p2), .val (.int p3), .val (.int p4), .val (.long q5), .second, .val (.ref b1), .val (.ref b5), .val (.ref b9), .val (.int (0 : Int32)), .val (.int (1 : Int32)), .val (.int c1), .val (.int c2), .val (.int c3), .val .null, .unset, .unset, .unset, .unset, .unset] [.null])) _
        refine XS.astore X52.here hx rfl (hb hby at_136) rfl rfl (l' := #[.val (.int p0), .val (.int p1), .val (.int p2), .val (.int p3), .val (.int p4), .val (.long q5), .second, .val (.ref b1), .val (.ref b5), .val (.ref b9), .val (.int (0 : Int32)), .val (.int (1 : Int32)), .val (.int c1), .val (.int c2), .val (.int c3), .val .null, .val .null, .unset, .unset, .unset, .unset]) rfl ?_
        show Steps p.tables e below (T52.setTop (mkF m 138 #[.val (.int p0), .val (.int p1), .val (.int p2), .val (.int p3), .val (.int p4), .val (.long q5), .second, .val (.ref b1), .val (.ref b5), .val (.ref b9), .val (.int (0 : Int32)), .val (.int (1 : Int32)), .val (.int c1), .val (.int c2), .val (.int c3), .val .null, .val .null, .unset, .unset, .unset, .unset] [])) _
        refine XS.iload X52.here hx rfl (hb hby at_138) rfl ?_
        show Steps p.tables e below (T52.setTop (mkF m 140 #[.val (.int p0), .val (.int p1), .val (.int p2), .val (.int p3), .val (.int p4), .val (.long q5), .second, .val (.ref b1), .val (.ref b5), .val (.ref b9), .val (.int (0 : Int32)), .val (.int (1 : Int32)), .val (.int c1), .val (.int c2), .val (.int c3), .val .null, .val .null, .unset, .unset, .unset, .unset] [(.int (1 : Int32))])) _
        refine XS.ifNo X52.here hx rfl (hb hby at_140) rfl ((if0 _ _).trans (feq (by decide : ¬ ((1 : Int32) = (0 : Int32)))).1) ?_
        show Steps p.tables e below (T52.setTop (mkF m 143 #[.val (.int p0), .val (.int p1), .val (.int p2), .val (.int p3), .val (.int p4), .val (.long q5), .second, .val (.ref b1), .val (.ref b5), .val (.ref b9), .val (.int (0 : Int32)), .val (.int (1 : Int32)), .val (.int c1), .val (.int c2), .val (.int c3), .val .null, .val .null, .unset, .unset, .unset, .unset] [])) _
        refine st54 _ ?_
        show Steps p.tables e below (T54.setTop (mkF m 146 #[.val (.int p0), .val (.int p1), .val (.int p2), .val (.int p3), .val (.int p4), .val (.long q5), .second, .val (.ref b1), .val (.ref b5), .val (.ref b9), .val (.int (0 : Int32)), .val (.int (1 : Int32)), .val (.int c1), .val (.int c2), .val (.int c3), .val .null, .val .null, .unset, .unset, .unset, .unset] [(.ref b54)])) _
        refine XS.dup X54.here hx rfl (hb hby at_146) rfl rfl ?_
        show Steps p.tables e below (T54.setTop (mkF m 147 #[.val (.int p0), .val (.int p1), .val (.int p2), .val (.int p3), .val (.int p4), .val (.long q5), .second, .val (.ref b1), .val (.ref b5), .val (.ref b9), .val (.int (0 : Int32)), .val (.int (1 : Int32)), .val (.int c1), .val (.int c2), .val (.int c3), .val .null, .val .null, .unset, .unset, .unset, .unset] [(.ref b54), (.ref b54)])) _
        refine XS.iload X54.here hx rfl (hb hby at_147) rfl ?_
        show Steps p.tables e below (T54.setTop (mkF m 149 #[.val (.int p0), .val (.int p1), .val (.int p2), .val (.int p3), .val (.int p4), .val (.long q5), .second, .val (.ref b1), .val (.ref b5), .val (.ref b9), .val (.int (0 : Int32)), .val (.int (1 : Int32)), .val (.int c1), .val (.int c2), .val (.int c3), .val .null, .val .null, .unset, .unset, .unset, .unset] [(.int c2), (.ref b54), (.ref b54)])) _
        refine st57 _ ?_
        show Steps p.tables e below (T57.setTop (mkF m 152 #[.val (.int p0), .val (.int p1), .val (.int p2), .val (.int p3), .val (.int p4), .val (.long q5), .second, .val (.ref b1), .val (.ref b5), .val (.ref b9), .val (.int (0 : Int32)), .val (.int (1 : Int32)), .val (.int c1), .val (.int c2), .val (.int c3), .val .null, .val .null, .unset, .unset, .unset, .unset] [(.ref ar57), (.ref b54), (.ref b54)])) _
        refine XS.iloadN X57.here hx rfl (hb hby at_152) rfl ?_
        show Steps p.tables e below (T57.setTop (mkF m 153 #[.val (.int p0), .val (.int p1), .val (.int p2), .val (.int p3), .val (.int p4), .val (.long q5), .second, .val (.ref b1), .val (.ref b5), .val (.ref b9), .val (.int (0 : Int32)), .val (.int (1 : Int32)), .val (.int c1), .val (.int c2), .val (.int c3), .val .null, .val .null, .unset, .unset, .unset, .unset] [(.int p0), (.ref ar57), (.ref b54), (.ref b54)])) _
        refine XS.bipush X57.here hx rfl (hb hby at_153) ?_
        show Steps p.tables e below (T57.setTop (mkF m 155 #[.val (.int p0), .val (.int p1), .val (.int p2), .val (.int p3), .val (.int p4), .val (.long q5), .second, .val (.ref b1), .val (.ref b5), .val (.ref b9), .val (.int (0 : Int32)), .val (.int (1 : Int32)), .val (.int c1), .val (.int c2), .val (.int c3), .val .null, .val .null, .unset, .unset, .unset, .unset] [(.int (8 : Int32)), (.int p0), (.ref ar57), (.ref b54), (.ref b54)])) _
        refine XS.iand X57.here hx rfl (hb hby at_155) rfl ?_
        show Steps p.tables e below (T57.setTop (mkF m 156 #[.val (.int p0), .val (.int p1), .val (.int p2), .val (.int p3), .val (.int p4), .val (.long q5), .second, .val (.ref b1), .val (.ref b5), .val (.ref b9), .val (.int (0 : Int32)), .val (.int (1 : Int32)), .val (.int c1), .val (.int c2), .val (.int c3), .val .null, .val .null, .unset, .unset, .unset, .unset] [(.int (p0 &&& (8 : Int32))), (.ref ar57), (.ref b54), (.ref b54)])) _
        refine own_boolI (g := (mkF m 156 #[.val (.int p0), .val (.int p1), .val (.int p2), .val (.int p3), .val (.int p4), .val (.long q5), .second, .val (.ref b1), .val (.ref b5), .val (.ref b9), .val (.int (0 : Int32)), .val (.int (1 : Int32)), .val (.int c1), .val (.int c2), .val (.int c3), .val .null, .val .null, .unset, .unset, .unset, .unset] [(.int (p0 &&& (8 : Int32))), (.ref ar57), (.ref b54), (.ref b54)])) X57.here hx rfl (hb hby at_156) (hb hby at_159) (hb hby at_160) (hb hby at_163) rfl (by exact own_b_eq _ _) ?_
        show Steps p.tables e below (T57.setTop (mkF m 164 #[.val (.int p0), .val (.int p1), .val (.int p2), .val (.int p3), .val (.int p4), .val (.long q5), .second, .val (.ref b1), .val (.ref b5), .val (.ref b9), .val (.int (0 : Int32)), .val (.int (1 : Int32)), .val (.int c1), .val (.int c2), .val (.int c3), .val .null, .val .null, .unset, .unset, .unset, .unset] [(.int (if (p0 &&& (8 : Int32)) = (0 : Int32) then (0 : Int32) else (1 : Int32))), (.ref ar57), (.ref b54), (.ref b54)])) _
        refine XS.aload X57.here hx rfl (hb hby at_164) rfl rfl ?_
        show Steps p.tables e below (T57.setTop (mkF m 166 #[.val (.int p0), .val (.int p1), .val (.int p2), .val (.int p3), .val (.int p4), .val (.long q5), .second, .val (.ref b1), .val (.ref b5), .val (.ref b9), .val (.int (0 : Int32)), .val (.int (1 : Int32)), .val (.int c1), .val (.int c2), .val (.int c3), .val .null, .val .null, .unset, .unset, .unset, .unset] [(.ref b5), (.int (if (p0 &&& (8 : Int32)) = (0 : Int32) then (0 : Int32) else (1 : Int32))), (.ref ar57), (.ref b54), (.ref b54)])) _
        refine st63.trans ?_
        show Steps p.tables e below (T63.setTop (mkF m 169 #[.val (.int p0), .val (.int p1), .val (.int p2), .val (.int p3), .val (.int p4), .val (.long q5), .second, .val (.ref b1), .val (.ref b5), .val (.ref b9), .val (.int (0 : Int32)), .val (.int (1 : Int32)), .val (.int c1), .val (.int c2), .val (.int c3), .val .null, .val .null, .unset, .unset, .unset, .unset] [(.ref b54)])) _
        refine XS.astore X63.here hx rfl (hb hby at_169) rfl rfl (l' := #[.val (.int p0), .val (.int p1), .val (.int p2), .val (.int p3), .val (.int p4), .val (.long q5), .second, .val (.ref b1), .val (.ref b5), .val (.ref b9), .val (.int (0 : Int32)), .val (.int (1 : Int32)), .val (.int c1), .val (.int c2), .val (.int c3), .val .null, .val (.ref b54), .unset, .unset, .unset, .unset]) rfl ?_
        show Steps p.tables e below (T63.setTop (mkF m 171 #[.val (.int p0), .val (.int p1), .val (.int p2), .val (.int p3), .val (.int p4), .val (.long q5), .second, .val (.ref b1), .val (.ref b5), .val (.ref b9), .val (.int (0 : Int32)), .val (.int (1 : Int32)), .val (.int c1), .val (.int c2), .val (.int c3), .val .null, .val (.ref b54), .unset, .unset, .unset, .unset] [])) _
        refine st65 _ ?_
        show Steps p.tables e below (T65.setTop (mkF m 174 #[.val (.int p0), .val (.int p1), .val (.int p2), .val (.int p3), .val (.int p4), .val (.long q5), .second, .val (.ref b1), .val (.ref b5), .val (.ref b9), .val (.int (0 : Int32)), .val (.int (1 : Int32)), .val (.int c1), .val (.int c2), .val (.int c3), .val .null, .val (.ref b54), .unset, .unset, .unset, .unset] [(.ref b65)])) _
        refine XS.dup X65.here hx rfl (hb hby at_174) rfl rfl ?_
        show Steps p.tables e below (T65.setTop (mkF m 175 #[.val (.int p0), .val (.int p1), .val (.int p2), .val (.int p3), .val (.int p4), .val (.long q5), .second, .val (.ref b1), .val (.ref b5), .val (.ref b9), .val (.int (0 : Int32)), .val (.int (1 : Int32)), .val (.int c1), .val (.int c2), .val (.int c3), .val .null, .val (.ref b54), .unset, .unset, .unset, .unset] [(.ref b65), (.ref b65)])) _
        refine XS.iload X65.here hx rfl (hb hby at_175) rfl ?_
        show Steps p.tables e below (T65.setTop (mkF m 177 #[.val (.int p0), .val (.int p1), .val (.int p2), .val (.int p3), .val (.int p4), .val (.long q5), .second, .val (.ref b1), .val (.ref b5), .val (.ref b9), .val (.int (0 : Int32)), .val (.int (1 : Int32)), .val (.int c1), .val (.int c2), .val (.int c3), .val .null, .val (.ref b54), .unset, .unset, .unset, .unset] [(.int c3), (.ref b65), (.ref b65)])) _
        refine st68 _ ?_
        show Steps p.tables e below (T68.setTop (mkF m 180 #[.val (.int p0), .val (.int p1), .val (.int p2), .val (.int p3), .val (.int p4), .val (.long q5), .second, .val (.ref b1), .val (.ref b5), .val (.ref b9), .val (.int (0 : Int32)), .val (.int (1 : Int32)), .val (.int c1), .val (.int c2), .val (.int c3), .val .null, .val (.ref b54), .unset, .unset, .unset, .unset] [(.ref ar68), (.ref b65), (.ref b65)])) _
        refine XS.iloadN X68.here hx rfl (hb hby at_180) rfl ?_
        show Steps p.tables e below (T68.setTop (mkF m 181 #[.val (.int p0), .val (.int p1), .val (.int p2), .val (.int p3), .val (.int p4), .val (.long q5), .second, .val (.ref b1), .val (.ref b5), .val (.ref b9), .val (.int (0 : Int32)), .val (.int (1 : Int32)), .val (.int c1), .val (.int c2), .val (.int c3), .val .null, .val (.ref b54), .unset, .unset, .unset, .unset] [(.int p0), (.ref ar68), (.ref b65), (.ref b65)])) _
        refine XS.bipush X68.here hx rfl (hb hby at_181) ?_
        show Steps p.tables e below (T68.setTop (mkF m 183 #[.val (.int p0), .val (.int p1), .val (.int p2), .val (.int p3), .val (.int p4), .val (.long q5), .second, .val (.ref b1), .val (.ref b5), .val (.ref b9), .val (.int (0 : Int32)), .val (.int (1 : Int32)), .val (.int c1), .val (.int c2), .val (.int c3), .val .null, .val (.ref b54), .unset, .unset, .unset, .unset] [(.int (16 : Int32)), (.int p0), (.ref ar68), (.ref b65), (.ref b65)])) _
        refine XS.iand X68.here hx rfl (hb hby at_183) rfl ?_
        show Steps p.tables e below (T68.setTop (mkF m 184 #[.val (.int p0), .val (.int p1), .val (.int p2), .val (.int p3), .val (.int p4), .val (.long q5), .second, .val (.ref b1), .val (.ref b5), .val (.ref b9), .val (.int (0 : Int32)), .val (.int (1 : Int32)), .val (.int c1), .val (.int c2), .val (.int c3), .val .null, .val (.ref b54), .unset, .unset, .unset, .unset] [(.int (p0 &&& (16 : Int32))), (.ref ar68), (.ref b65), (.ref b65)])) _
        refine own_boolI (g := (mkF m 184 #[.val (.int p0), .val (.int p1), .val (.int p2), .val (.int p3), .val (.int p4), .val (.long q5), .second, .val (.ref b1), .val (.ref b5), .val (.ref b9), .val (.int (0 : Int32)), .val (.int (1 : Int32)), .val (.int c1), .val (.int c2), .val (.int c3), .val .null, .val (.ref b54), .unset, .unset, .unset, .unset] [(.int (p0 &&& (16 : Int32))), (.ref ar68), (.ref b65), (.ref b65)])) X68.here hx rfl (hb hby at_184) (hb hby at_187) (hb hby at_188) (hb hby at_191) rfl (by exact own_b_eq _ _) ?_
        show Steps p.tables e below (T68.setTop (mkF m 192 #[.val (.int p0), .val (.int p1), .val (.int p2), .val (.int p3), .val (.int p4), .val (.long q5), .second, .val (.ref b1), .val (.ref b5), .val (.ref b9), .val (.int (0 : Int32)), .val (.int (1 : Int32)), .val (.int c1), .val (.int c2), .val (.int c3), .val .null, .val (.ref b54), .unset, .unset, .unset, .unset] [(.int (if (p0 &&& (16 : Int32)) = (0 : Int32) then (0 : Int32) else (1 : Int32))), (.ref ar68), (.ref b65), (.ref b65)])) _
        refine XS.aload X68.here hx rfl (hb hby at_192) rfl rfl ?_
        show Steps p.tables e below (T68.setTop (mkF m 194 #[.val (.int p0), .val (.int p1), .val (.int p2), .val (.int p3), .val (.int p4), .val (.long q5), .second, .val (.ref b1), .val (.ref b5), .val (.ref b9), .val (.int (0 : Int32)), .val (.int (1 : Int32)), .val (.int c1), .val (.int c2), .val (.int c3), .val .null, .val (.ref b54), .unset, .unset, .unset, .unset] [(.ref b9), (.int (if (p0 &&& (16 : Int32)) = (0 : Int32) then (0 : Int32) else (1 : Int32))), (.ref ar68), (.ref b65), (.ref b65)])) _
        refine st74.trans ?_
        show Steps p.tables e below (T74.setTop (mkF m 197 #[.val (.int p0), .val (.int p1), .val (.int p2), .val (.int p3), .val (.int p4), .val (.long q5), .second, .val (.ref b1), .val (.ref b5), .val (.ref b9), .val (.int (0 : Int32)), .val (.int (1 : Int32)), .val (.int c1), .val (.int c2), .val (.int c3), .val .null, .val (.ref b54), .unset, .unset, .unset, .unset] [(.ref b65)])) _
        refine XS.astore X74.here hx rfl (hb hby at_197) rfl rfl (l' := #[.val (.int p0), .val (.int p1), .val (.int p2), .val (.int p3), .val (.int p4), .val (.long q5), .second, .val (.ref b1), .val (.ref b5), .val (.ref b9), .val (.int (0 : Int32)), .val (.int (1 : Int32)), .val (.int c1), .val (.int c2), .val (.int c3), .val .null, .val (.ref b54), .val (.ref b65), .unset, .unset, .unset]) rfl ?_
        show Steps p.tables e below (T74.setTop (mkF m 199 #[.val (.int p0), .val (.int p1), .val (.int p2), .val (.int p3), .val (.int p4), .val (.long q5), .second, .val (.ref b1), .val (.ref b5), .val (.ref b9), .val (.int (0 : Int32)), .val (.int (1 : Int32)), .val (.int c1), .val (.int c2), .val (.int c3), .val .null, .val (.ref b54), .val (.ref b65), .unset, .unset, .unset] [])) _
        refine st76 _ ?_
        show Steps p.tables e below (T76.setTop (mkF m 202 #[.val (.int p0), .val (.int p1), .val (.int p2), .val (.int p3), .val (.int p4), .val (.long q5), .second, .val (.ref b1), .val (.ref b5), .val (.ref b9), .val (.int (0 : Int32)), .val (.int (1 : Int32)), .val (.int c1), .val (.int c2), .val (.int c3), .val .null, .val (.ref b54), .val (.ref b65), .unset, .unset, .unset] [(.ref b76)])) _
        refine XS.dup X76.here hx rfl (hb hby at_202) rfl rfl ?_
        show Steps p.tables e below (T76.setTop (mkF m 203 #[.val (.int p0), .val (.int p1), .val (.int p2), .val (.int p3), .val (.int p4), .val (.long q5), .second, .val (.ref b1), .val (.ref b5), .val (.ref b9), .val (.int (0 : Int32)), .val (.int (1 : Int32)), .val (.int c1), .val (.int c2), .val (.int c3), .val .null, .val (.ref b54), .val (.ref b65), .unset, .unset, .unset] [(.ref b76), (.ref b76)])) _
        refine XS.aload X76.here hx rfl (hb hby at_203) rfl rfl ?_
        show Steps p.tables e below (T76.setTop (mkF m 205 #[.val (.int p0), .val (.int p1), .val (.int p2), .val (.int p3), .val (.int p4), .val (.long q5), .second, .val (.ref b1), .val (.ref b5), .val (.ref b9), .val (.int (0 : Int32)), .val (.int (1 : Int32)), .val (.int c1), .val (.int c2), .val (.int c3), .val .null, .val (.ref b54), .val (.ref b65), .unset, .unset, .unset] [.null, (.ref b76), (.ref b76)])) _
        refine XS.aload X76.here hx rfl (hb hby at_205) rfl rfl ?_
        show Steps p.tables e below (T76.setTop (mkF m 207 #[.val (.int p0), .val (.int p1), .val (.int p2), .val (.int p3), .val (.int p4), .val (.long q5), .second, .val (.ref b1), .val (.ref b5), .val (.ref b9), .val (.int (0 : Int32)), .val (.int (1 : Int32)), .val (.int c1), .val (.int c2), .val (.int c3), .val .null, .val (.ref b54), .val (.ref b65), .unset, .unset, .unset] [(.ref b54), .null, (.ref b76), (.ref b76)])) _
        refine XS.aload X76.here hx rfl (hb hby at_207) rfl rfl ?_
        show Steps p.tables e below (T76.setTop (mkF m 209 #[.val (.int p0), .val (.int p1), .val (.int p2), .val (.int p3), .val (.int p4), .val (.long q5), .second, .val (.ref b1), .val (.ref b5), .val (.ref b9), .val (.int (0 : Int32)), .val (.int (1 : Int32)), .val (.int c1), .val (.int c2), .val (.int c3), .val .null, .val (.ref b54), .val (.ref b65), .unset, .unset, .unset] [(.ref b65), (.ref b54), .null, (.ref b76), (.ref b76)])) _
        refine st78.trans ?_
        show Steps p.tables e below (T78.setTop (mkF m 212 #[.val (.int p0), .val (.int p1), .val (.int p2), .val (.int p3), .val (.int p4), .val (.long q5), .second, .val (.ref b1), .val (.ref b5), .val (.ref b9), .val (.int (0 : Int32)), .val (.int (1 : Int32)), .val (.int c1), .val (.int c2), .val (.int c3), .val .null, .val (.ref b54), .val (.ref b65), .unset, .unset, .unset] [(.ref b76)])) _
        refine XS.astore X78.here hx rfl (hb hby at_212) rfl rfl (l' := #[.val (.int p0), .val (.int p1), .val (.int p2), .val (.int p3), .val (.int p4), .val (.long q5), .second, .val (.ref b1), .val (.ref b5), .val (.ref b9), .val (.int (0 : Int32)), .val (.int (1 : Int32)), .val (.int c1), .val (.int c2), .val (.int c3), .val .null, .val (.ref b54), .val (.ref b65), .val (.ref b76), .unset, .unset]) rfl ?_
        show Steps p.tables e below (T78.setTop (mkF m 214 #[.val (.int p0), .val (.int p1), .val (.int p2), .val (.int p3), .val (.int p4), .val (.long q5), .second, .val (.ref b1), .val (.ref b5), .val (.ref b9), .val (.int (0 : Int32)), .val (.int (1 : Int32)), .val (.int c1), .val (.int c2), .val (.int c3), .val .null, .val (.ref b54), .val (.ref b65), .val (.ref b76), .unset, .unset] [])) _
        refine XS.aload X78.here hx rfl (hb hby at_214) rfl rfl ?_
        show Steps p.tables e below (T78.setTop (mkF m 216 #[.val (.int p0), .val (.int p1), .val (.int p2), .val (.int p3), .val (.int p4), .val (.long q5), .second, .val (.ref b1), .val (.ref b5), .val (.ref b9), .val (.int (0 : Int32)), .val (.int (1 : Int32)), .val (.int c1), .val (.int c2), .val (.int c3), .val .null, .val (.ref b54), .val (.ref b65), .val (.ref b76), .unset, .unset] [(.ref b76)])) _
        refine st84.trans ?_
        show Steps p.tables e below (T84.setTop (mkF m 219 #[.val (.int p0), .val (.int p1), .val (.int p2), .val (.int p3), .val (.int p4), .val (.long q5), .second, .val (.ref b1), .val (.ref b5), .val (.ref b9), .val (.int (0 : Int32)), .val (.int (1 : Int32)), .val (.int c1), .val (.int c2), .val (.int c3), .val .null, .val (.ref b54), .val (.ref b65), .val (.ref b76), .unset, .unset] [(.ref b5)])) _
        refine XS.astore X84.here hx rfl (hb hby at_219) rfl rfl (l' := #[.val (.int p0), .val (.int p1), .val (.int p2), .val (.int p3), .val (.int p4), .val (.long q5), .second, .val (.ref b1), .val (.ref b5), .val (.ref b9), .val (.int (0 : Int32)), .val (.int (1 : Int32)), .val (.int c1), .val (.int c2), .val (.int c3), .val .null, .val (.ref b54), .val (.ref b65), .val (.ref b76), .val (.ref b5), .unset]) rfl ?_
        show Steps p.tables e below (T84.setTop (mkF m 221 #[.val (.int p0), .val (.int p1), .val (.int p2), .val (.int p3), .val (.int p4), .val (.long q5), .second, .val (.ref b1), .val (.ref b5), .val (.ref b9), .val (.int (0 : Int32)), .val (.int (1 : Int32)), .val (.int c1), .val (.int c2), .val (.int c3), .val .null, .val (.ref b54), .val (.ref b65), .val (.ref b76), .val (.ref b5), .unset] [])) _
        refine XS.iload X84.here hx rfl (hb hby at_221) rfl ?_
        show Steps p.tables e below (T84.setTop (mkF m 223 #[.val (.int p0), .val (.int p1), .val (.int p2), .val (.int p3), .val (.int p4), .val (.long q5), .second, .val (.ref b1), .val (.ref b5), .val (.ref b9), .val (.int (0 : Int32)), .val (.int (1 : Int32)), .val (.int c1), .val (.int c2), .val (.int c3), .val .null, .val (.ref b54), .val (.ref b65), .val (.ref b76), .val (.ref b5), .unset] [(.int (0 : Int32))])) _
        refine XS.ifYes X84.here hx rfl (pc0 := 223) (pc' := 233) rfl (hb hby at_223) rfl ((if0 _ _).trans (teq (by decide : (0 : Int32) = (0 : Int32))).1) (by decide) (by decide) ?_
        show Steps p.tables e below (T84.setTop (mkF m 233 #[.val (.int p0), .val (.int p1), .val (.int p2), .val (.int p3), .val (.int p4), .val (.long q5), .second, .val (.ref b1), .val (.ref b5), .val (.ref b9), .val (.int (0 : Int32)), .val (.int (1 : Int32)), .val (.int c1), .val (.int c2), .val (.int c3), .val .null, .val (.ref b54), .val (.ref b65), .val (.ref b76), .val (.ref b5), .unset] [])) _
        refine XS.iload X84.here hx rfl (hb hby at_233) rfl ?_
        show Steps p.tables e below (T84.setTop (mkF m 235 #[.val (.int p0), .val (.int p1), .val (.int p2), .val (.int p3), .val (.int p4), .val (.long q5), .second, .val (.ref b1), .val (.ref b5), .val (.ref b9), .val (.int (0 : Int32)), .val (.int (1 : Int32)), .val (.int c1), .val (.int c2), .val (.int c3), .val .null, .val (.ref b54), .val (.ref b65), .val (.ref b76), .val (.ref b5), .unset] [(.int (1 : Int32))])) _
        refine XS.ifNo X84.here hx rfl (hb hby at_235) rfl ((if0 _ _).trans (feq (by decide : ¬ ((1 : Int32) = (0 : Int32)))).1) ?_
        show Steps p.tables e below (T84.setTop (mkF m 238 #[.val (.int p0), .val (.int p1), .val (.int p2), .val (.int p3), .val (.int p4), .val (.long q5), .second, .val (.ref b1), .val (.ref b5), .val (.ref b9), .val (.int (0 : Int32)), .val (.int (1 : Int32)), .val (.int c1), .val (.int c2), .val (.int c3), .val .null, .val (.ref b54), .val (.ref b65), .val (.ref b76), .val (.ref b5), .unset] [])) _
        refine XS.aload X84.here hx rfl (hb hby at_238) rfl rfl ?_
        show Steps p.tables e below (T84.setTop (mkF m 240 #[.val (.int p0), .val (.int p1), .val (.int p2), .val (.int p3), .val (.int p4), .val (.long q5), .second, .val (.ref b1), .val (.ref b5), .val (.ref b9), .val (.int (0 : Int32)), .val (.int (1 : Int32)), .val (.int c1), .val (.int c2), .val (.int c3), .val .null, .val (.ref b54), .val (.ref b65), .val (.ref b76), .val (.ref b5), .unset] [(.ref b5)])) _
        refine XS.astore X84.here hx rfl (hb hby at_240) rfl rfl (l' := #[.val (.int p0), .val (.int p1), .val (.int p2), .val (.int p3), .val (.int p4), .val (.long q5), .second, .val (.ref b1), .val (.ref b5), .val (.ref b9), .val (.int (0 : Int32)), .val (.int (1 : Int32)), .val (.int c1), .val (.int c2), .val (.int c3), .val .null, .val (.ref b54), .val (.ref b65), .val (.ref b76), .val (.ref b5), .val (.ref b5)]) rfl ?_
        show Steps p.tables e below (T84.setTop (mkF m 242 #[.val (.int p0), .val (.int p1), .val (.int p2), .val (.int p3), .val (.int p4), .val (.long q5), .second, .val (.ref b1), .val (.ref b5), .val (.ref b9), .val (.int (0 : Int32)), .val (.int (1 : Int32)), .val (.int c1), .val (.int c2), .val (.int c3), .val .null, .val (.ref b54), .val (.ref b65), .val (.ref b76), .val (.ref b5), .val (.ref b5)] [])) _
        refine XS.goto X84.here hx rfl (pc0 := 242) (pc' := 249) rfl (hb hby at_242) (by decide) (by decide) ?_
        show Steps p.tables e below (T84.setTop (mkF m 249 #[.val (.int p0), .val (.int p1), .val (.int p2), .val (.int p3), .val (.int p4), .val (.long q5), .second, .val (.ref b1), .val (.ref b5), .val (.ref b9), .val (.int (0 : Int32)), .val (.int (1 : Int32)), .val (.int c1), .val (.int c2), .val (.int c3), .val .null, .val (.ref b54), .val (.ref b65), .val (.ref b76), .val (.ref b5), .val (.ref b5)] [])) _
        refine XS.aload X84.here hx rfl (hb hby at_249) rfl rfl ?_
        show Steps p.tables e below (T84.setTop (mkF m 251 #[.val (.int p0), .val (.int p1), .val (.int p2), .val (.int p3), .val (.int p4), .val (.long q5), .second, .val (.ref b1), .val (.ref b5), .val (.ref b9), .val (.int (0 : Int32)), .val (.int (1 : Int32)), .val (.int c1), .val (.int c2), .val (.int c3), .val .null, .val (.ref b54), .val (.ref b65), .val (.ref b76), .val (.ref b5), .val (.ref b5)] [(.ref b5)])) _
        refine XS.aload X84.here hx rfl (hb hby at_251) rfl rfl ?_
        show Steps p.tables e below (T84.setTop (mkF m 253 #[.val (.int p0), .val (.int p1), .val (.int p2), .val (.int p3), .val (.int p4), .val (.long q5), .second, .val (.ref b1), .val (.ref b5), .val (.ref b9), .val (.int (0 : Int32)), .val (.int (1 : Int32)), .val (.int c1), .val (.int c2), .val (.int c3), .val .null, .val (.ref b54), .val (.ref b65), .val (.ref b76), .val (.ref b5), .val (.ref b5)] [(.ref b5), (.ref b5)])) _
        refine Jvm.RoadKit.acmp (g := (mkF m 253 #[.val (.int p0), .val (.int p1), .val (.int p2), .val (.int p3), .val (.int p4), .val (.long q5), .second, .val (.ref b1), .val (.ref b5), .val (.ref b9), .val (.int (0 : Int32)), .val (.int (1 : Int32)), .val (.int c1), .val (.int c2), .val (.int c3), .val .null, .val (.ref b54), .val (.ref b65), .val (.ref b76), .val (.ref b5), .val (.ref b5)] [(.ref b5), (.ref b5)])) X84 hx rfl rfl rfl (pc0 := 253) (pc' := 256) (same := true) rfl (hb hby at_253) rfl (decide_eq_true rfl) (by decide) (by decide) ?_
        show Steps p.tables e below (T84.setTop (mkF m 256 #[.val (.int p0), .val (.int p1), .val (.int p2), .val (.int p3), .val (.int p4), .val (.long q5), .second, .val (.ref b1), .val (.ref b5), .val (.ref b9), .val (.int (0 : Int32)), .val (.int (1 : Int32)), .val (.int c1), .val (.int c2), .val (.int c3), .val .null, .val (.ref b54), .val (.ref b65), .val (.ref b76), .val (.ref b5), .val (.ref b5)] [])) _
        refine XS.iconst X84.here hx rfl (hb hby at_256) ?_
        show Steps p.tables e below (T84.setTop (mkF m 257 #[.val (.int p0), .val (.int p1), .val (.int p2), .val (.int p3), .val (.int p4), .val (.long q5), .second, .val (.ref b1), .val (.ref b5), .val (.ref b9), .val (.int (0 : Int32)), .val (.int (1 : Int32)), .val (.int c1), .val (.int c2), .val (.int c3), .val .null, .val (.ref b54), .val (.ref b65), .val (.ref b76), .val (.ref b5), .val (.ref b5)] [(.int (1 : Int32))])) _
        refine XS.goto X84.here hx rfl (pc0 := 257) (pc' := 261) rfl (hb hby at_257) (by decide) (by decide) ?_
        exact k
      obtain ⟨fs, hrq, hrun, hended, hW, hsame⟩ := X84.leave (v := some (.int (1 : Int32))) (fun h => by rw [Bd.returns] at h; cases h)
      refine ⟨_, _, pre85 _ ?_, hrun, hended, _, _, rfl, ?_, ⟨_, rfl⟩, hW, hsame.mono (by decide) (by decide)⟩
      · show Steps p.tables e below (T84.setTop (mkF m 261 #[.val (.int p0), .val (.int p1), .val (.int p2), .val (.int p3), .val (.int p4), .val (.long q5), .second, .val (.ref b1), .val (.ref b5), .val (.ref b9), .val (.int (0 : Int32)), .val (.int (1 : Int32)), .val (.int c1), .val (.int c2), .val (.int c3), .val .null, .val (.ref b54), .val (.ref b65), .val (.ref b76), .val (.ref b5), .val (.ref b5)] [(.int (1 : Int32))])) _
        exact retN X84 hx (t := .boolean) Bd.returns (by simp) (hb hby at_261) hrq
      · show Q0 Z p0 p1 p2 p3 p4 q5 cs h0 n0 _ T84.heap _
        rw [e84]
        exact ⟨rfl, N84⟩
  · have pre86 : ∀ t, Steps p.tables e below (T11.setTop (mkF m 57 #[.val (.int p0), .val (.int p1), .val (.int p2), .val (.int p3), .val (.int p4), .val (.long q5), .second, .val (.ref b1), .val (.ref b5), .val (.ref b9), .val (.int (1 : Int32)), .unset, .unset, .unset, .unset, .unset, .unset, .unset, .unset, .unset, .unset] [(.int (p0 &&& (2 : Int32)))])) t → Steps p.tables e below (s₁.setTop (entryFrame m #[(.int p0), (.int p1), (.int p2), (.int p3), (.int p4), (.long q5)] maxLocals)) t := fun t k => by
      refine pre13 t ?_
      show Steps p.tables e below (T11.setTop (mkF m 44 #[.val (.int p0), .val (.int p1), .val (.int p2), .val (.int p3), .val (.int p4), .val (.long q5), .second, .val (.ref b1), .val (.ref b5), .val (.ref b9), .unset, .unset, .unset, .unset, .unset, .unset, .unset, .unset, .unset, .unset, .unset] [(.int (p0 &&& (1 : Int32)))])) _
      refine XS.ifNo X11.here hx rfl (hb hby at_44) rfl ((if0 _ _).trans (feq hc44_14).1) ?_
      show Steps p.tables e below (T11.setTop (mkF m 47 #[.val (.int p0), .val (.int p1), .val (.int p2), .val (.int p3), .val (.int p4), .val (.long q5), .second, .val (.ref b1), .val (.ref b5), .val (.ref b9), .unset, .unset, .unset, .unset, .unset, .unset, .unset, .unset, .unset, .unset, .unset] [])) _
      refine XS.iconst X11.here hx rfl (hb hby at_47) ?_
      show Steps p.tables e below (T11.setTop (mkF m 48 #[.val (.int p0), .val (.int p1), .val (.int p2), .val (.int p3), .val (.int p4), .val (.long q5), .second, .val (.ref b1), .val (.ref b5), .val (.ref b9), .unset, .unset, .unset, .unset, .unset, .unset, .unset, .unset, .unset, .unset, .unset] [(.int (1 : Int32))])) _
      refine XS.goto X11.here hx rfl (pc0 := 48) (pc' := 52) rfl (hb hby at_48) (by decide) (by decide) ?_
      show Steps p.tables e below (T11.setTop (mkF m 52 #[.val (.int p0), .val (.int p1), .val (.int p2), .val (.int p3), .val (.int p4), .val (.long q5), .second, .val (.ref b1), .val (.ref b5), .val (.ref b9), .unset, .unset, .unset, .unset, .unset, .unset, .unset, .unset, .unset, .unset, .unset] [(.int (1 : Int32))])) _
      refine XS.istore X11.here hx rfl (hb hby at_52) rfl (l' := #[.val (.int p0), .val (.int p1), .val (.int p2), .val (.int p3), .val (.int p4), .val (.long q5), .second, .val (.ref b1), .val (.ref b5), .val (.ref b9), .val (.int (1 : Int32)), .unset, .unset, .unset, .unset, .unset, .unset, .unset, .unset, .unset, .unset]) rfl ?_
      show Steps p.tables e below (T11.setTop (mkF m 54 #[.val (.int p0), .val (.int p1), .val (.int p2), .val (.int p3), .val (.int p4), .val (.long q5), .second, .val (.ref b1), .val (.ref b5), .val (.ref b9), .val (.int (1 : Int32)), .unset, .unset, .unset, .unset, .unset, .unset, .unset, .unset, .unset, .unset] [])) _
      refine XS.iloadN X11.here hx rfl (hb hby at_54) rfl ?_
      show Steps p.tables e below (T11.setTop (mkF m 55 #[.val (.int p0), .val (.int p1), .val (.int p2), .val (.int p3), .val (.int p4), .val (.long q5), .second, .val (.ref b1), .val (.ref b5), .val (.ref b9), .val (.int (1 : Int32)), .unset, .unset, .unset, .unset, .unset, .unset, .unset, .unset, .unset, .unset] [(.int p0)])) _
      refine XS.iconst X11.here hx rfl (hb hby at_55) ?_
      show Steps p.tables e below (T11.setTop (mkF m 56 #[.val (.int p0), .val (.int p1), .val (.int p2), .val (.int p3), .val (.int p4), .val (.long q5), .second, .val (.ref b1), .val (.ref b5), .val (.ref b9), .val (.int (1 : Int32)), .unset, .unset, .unset, .unset, .unset, .unset, .unset, .unset, .unset, .unset] [(.int (2 : Int32)), (.int p0)])) _
      refine XS.iand X11.here hx rfl (hb hby at_56) rfl ?_
      exact k
    by_cases hc57_87 : (p0 &&& (2 : Int32)) = (0 : Int32)
    · have pre88 : ∀ t, Steps p.tables e below (T11.setTop (mkF m 67 #[.val (.int p0), .val (.int p1), .val (.int p2), .val (.int p3), .val (.int p4), .val (.long q5), .second, .val (.ref b1), .val (.ref b5), .val (.ref b9), .val (.int (1 : Int32)), .val (.int (0 : Int32)), .unset, .unset, .unset, .unset, .unset, .unset, .unset, .unset, .unset] [])) t → Steps p.tables e below (s₁.setTop (entryFrame m #[(.int p0), (.int p1), (.int p2), (.int p3), (.int p4), (.long q5)] maxLocals)) t := fun t k => by
        refine pre86 t ?_
        show Steps p.tables e below (T11.setTop (mkF m 57 #[.val (.int p0), .val (.int p1), .val (.int p2), .val (.int p3), .val (.int p4), .val (.long q5), .second, .val (.ref b1), .val (.ref b5), .val (.ref b9), .val (.int (1 : Int32)), .unset, .unset, .unset, .unset, .unset, .unset, .unset, .unset, .unset, .unset] [(.int (p0 &&& (2 : Int32)))])) _
        refine XS.ifYes X11.here hx rfl (pc0 := 57) (pc' := 64) rfl (hb hby at_57) rfl ((if0 _ _).trans (teq hc57_87).1) (by decide) (by decide) ?_
        show Steps p.tables e below (T11.setTop (mkF m 64 #[.val (.int p0), .val (.int p1), .val (.int p2), .val (.int p3), .val (.int p4), .val (.long q5), .second, .val (.ref b1), .val (.ref b5), .val (.ref b9), .val (.int (1 : Int32)), .unset, .unset, .unset, .unset, .unset, .unset, .unset, .unset, .unset, .unset] [])) _
        refine XS.iconst X11.here hx rfl (hb hby at_64) ?_
        show Steps p.tables e below (T11.setTop (mkF m 65 #[.val (.int p0), .val (.int p1), .val (.int p2), .val (.int p3), .val (.int p4), .val (.long q5), .second, .val (.ref b1), .val (.ref b5), .val (.ref b9), .val (.int (1 : Int32)), .unset, .unset, .unset, .unset, .unset, .unset, .unset, .unset, .unset, .unset] [(.int (0 : Int32))])) _
        refine XS.istore X11.here hx rfl (hb hby at_65) rfl (l' := #[.val (.int p0), .val (.int p1), .val (.int p2), .val (.int p3), .val (.int p4), .val (.long q5), .second, .val (.ref b1), .val (.ref b5), .val (.ref b9), .val (.int (1 : Int32)), .val (.int (0 : Int32)), .unset, .unset, .unset, .unset, .unset, .unset, .unset, .unset, .unset]) rfl ?_
        exact k
      obtain ⟨T89, c1, Lx89, X89, e89, N89, hc1, pre89⟩ : ∃ (T89 : State) (c1 : Int32) (Lx89 : List Loc), Stand p l e room_1 s0 m #[(.int p0), (.int p1), (.int p2), (.int p3), (.int p4), (.long q5)] below meth c T89 Lx89 3 9 ∧ T89.heap = T11.heap ∧ Fr n0 Lx89 ∧ (¬ ((255 : Int32) < c1)) ∧ (∀ t, Steps p.tables e below (T89.setTop (mkF m 76 #[.val (.int p0), .val (.int p1), .val (.int p2), .val (.int p3), .val (.int p4), .val (.long q5), .second, .val (.ref b1), .val (.ref b5), .val (.ref b9), .val (.int (1 : Int32)), .val (.int (0 : Int32)), .unset, .unset, .unset, .unset, .unset, .unset, .unset, .unset, .unset] [(.int c1)])) t → Steps p.tables e below (s₁.setTop (entryFrame m #[(.int p0), (.int p1), (.int p2), (.int p3), (.int p4), (.long q5)] maxLocals)) t) := by
        have pre90 : ∀ t, Steps p.tables e below (T11.setTop (mkF m 76 #[.val (.int p0), .val (.int p1), .val (.int p2), .val (.int p3), .val (.int p4), .val (.long q5), .second, .val (.ref b1), .val (.ref b5), .val (.ref b9), .val (.int (1 : Int32)), .val (.int (0 : Int32)), .unset, .unset, .unset, .unset, .unset, .unset, .unset, .unset, .unset] [(.int ((((p0.toUInt32 >>> ((8 : Int32) &&& 31).toUInt32).toInt32) &&& (255 : Int32)).toUInt32.toUInt16.toUInt32.toInt32))])) t → Steps p.tables e below (s₁.setTop (entryFrame m #[(.int p0), (.int p1), (.int p2), (.int p3), (.int p4), (.long q5)] maxLocals)) t := fun t k => by
          refine pre88 t ?_
          show Steps p.tables e below (T11.setTop (mkF m 67 #[.val (.int p0), .val (.int p1), .val (.int p2), .val (.int p3), .val (.int p4), .val (.long q5), .second, .val (.ref b1), .val (.ref b5), .val (.ref b9), .val (.int (1 : Int32)), .val (.int (0 : Int32)), .unset, .unset, .unset, .unset, .unset, .unset, .unset, .unset, .unset] [])) _
          refine XS.iloadN X11.here hx rfl (hb hby at_67) rfl ?_
          show Steps p.tables e below (T11.setTop (mkF m 68 #[.val (.int p0), .val (.int p1), .val (.int p2), .val (.int p3), .val (.int p4), .val (.long q5), .second, .val (.ref b1), .val (.ref b5), .val (.ref b9), .val (.int (1 : Int32)), .val (.int (0 : Int32)), .unset, .unset, .unset, .unset, .unset, .unset, .unset, .unset, .unset] [(.int p0)])) _
          refine XS.bipush X11.here hx rfl (hb hby at_68) ?_
          show Steps p.tables e below (T11.setTop (mkF m 70 #[.val (.int p0), .val (.int p1), .val (.int p2), .val (.int p3), .val (.int p4), .val (.long q5), .second, .val (.ref b1), .val (.ref b5), .val (.ref b9), .val (.int (1 : Int32)), .val (.int (0 : Int32)), .unset, .unset, .unset, .unset, .unset, .unset, .unset, .unset, .unset] [(.int (8 : Int32)), (.int p0)])) _
          refine XS.iushr X11.here hx rfl (hb hby at_70) rfl ?_
          show Steps p.tables e below (T11.setTop (mkF m 71 #[.val (.int p0), .val (.int p1), .val (.int p2), .val (.int p3), .val (.int p4), .val (.long q5), .second, .val (.ref b1), .val (.ref b5), .val (.ref b9), .val (.int (1 : Int32)), .val (.int (0 : Int32)), .unset, .unset, .unset, .unset, .unset, .unset, .unset, .unset, .unset] [(.int ((p0.toUInt32 >>> ((8 : Int32) &&& 31).toUInt32).toInt32))])) _
          refine XS.sipush X11.here hx rfl (hb hby at_71) ?_
          show Steps p.tables e below (T11.setTop (mkF m 74 #[.val (.int p0), .val (.int p1), .val (.int p2), .val (.int p3), .val (.int p4), .val (.long q5), .second, .val (.ref b1), .val (.ref b5), .val (.ref b9), .val (.int (1 : Int32)), .val (.int (0 : Int32)), .unset, .unset, .unset, .unset, .unset, .unset, .unset, .unset, .unset] [(.int (255 : Int32)), (.int ((p0.toUInt32 >>> ((8 : Int32) &&& 31).toUInt32).toInt32))])) _
          refine XS.iand X11.here hx rfl (hb hby at_74) rfl ?_
          show Steps p.tables e below (T11.setTop (mkF m 75 #[.val (.int p0), .val (.int p1), .val (.int p2), .val (.int p3), .val (.int p4), .val (.long q5), .second, .val (.ref b1), .val (.ref b5), .val (.ref b9), .val (.int (1 : Int32)), .val (.int (0 : Int32)), .unset, .unset, .unset, .unset, .unset, .unset, .unset, .unset, .unset] [(.int (((p0.toUInt32 >>> ((8 : Int32) &&& 31).toUInt32).toInt32) &&& (255 : Int32)))])) _
          refine XS.i2c X11.here hx rfl (hb hby at_75) rfl ?_
          exact k
        exact ⟨T11, ((((p0.toUInt32 >>> ((8 : Int32) &&& 31).toUInt32).toInt32) &&& (255 : Int32)).toUInt32.toUInt16.toUInt32.toInt32), _, X11, rfl, N11, (own_c255 _), pre90⟩
      have pre91 : ∀ t, Steps p.tables e below (T89.setTop (mkF m 78 #[.val (.int p0), .val (.int p1), .val (.int p2), .val (.int p3), .val (.int p4), .val (.long q5), .second, .val (.ref b1), .val (.ref b5), .val (.ref b9), .val (.int (1 : Int32)), .val (.int (0 : Int32)), .val (.int c1), .unset, .unset, .unset, .unset, .unset, .unset, .unset, .unset] [])) t → Steps p.tables e below (s₁.setTop (entryFrame m #[(.int p0), (.int p1), (.int p2), (.int p3), (.int p4), (.long q5)] maxLocals)) t := fun t k => by
        refine pre89 t ?_
        show Steps p.tables e below (T89.setTop (mkF m 76 #[.val (.int p0), .val (.int p1), .val (.int p2), .val (.int p3), .val (.int p4), .val (.long q5), .second, .val (.ref b1), .val (.ref b5), .val (.ref b9), .val (.int (1 : Int32)), .val (.int (0 : Int32)), .unset, .unset, .unset, .unset, .unset, .unset, .unset, .unset, .unset] [(.int c1)])) _
        refine XS.istore X89.here hx rfl (hb hby at_76) rfl (l' := #[.val (.int p0), .val (.int p1), .val (.int p2), .val (.int p3), .val (.int p4), .val (.long q5), .second, .val (.ref b1), .val (.ref b5), .val (.ref b9), .val (.int (1 : Int32)), .val (.int (0 : Int32)), .val (.int c1), .unset, .unset, .unset, .unset, .unset, .unset, .unset, .unset]) rfl ?_
        exact k
      obtain ⟨T92, c2, Lx92, X92, e92, N92, hc2, pre92⟩ : ∃ (T92 : State) (c2 : Int32) (Lx92 : List Loc), Stand p l e room_1 s0 m #[(.int p0), (.int p1), (.int p2), (.int p3), (.int p4), (.long q5)] below meth c T92 Lx92 3 9 ∧ T92.heap = T11.heap ∧ Fr n0 Lx92 ∧ (¬ ((255 : Int32) < c2)) ∧ (∀ t, Steps p.tables e below (T92.setTop (mkF m 87 #[.val (.int p0), .val (.int p1), .val (.int p2), .val (.int p3), .val (.int p4), .val (.long q5), .second, .val (.ref b1), .val (.ref b5), .val (.ref b9), .val (.int (1 : Int32)), .val (.int (0 : Int32)), .val (.int c1), .unset, .unset, .unset, .unset, .unset, .unset, .unset, .unset] [(.int c2)])) t → Steps p.tables e below (s₁.setTop (entryFrame m #[(.int p0), (.int p1), (.int p2), (.int p3), (.int p4), (.long q5)] maxLocals)) t) := by
        have pre93 : ∀ t, Steps p.tables e below (T89.setTop (mkF m 87 #[.val (.int p0), .val (.int p1), .val (.int p2), .val (.int p3), .val (.int p4), .val (.long q5), .second, .val (.ref b1), .val (.ref b5), .val (.ref b9), .val (.int (1 : Int32)), .val (.int (0 : Int32)), .val (.int c1), .unset, .unset, .unset, .unset, .unset, .unset, .unset, .unset] [(.int ((((p0.toUInt32 >>> ((16 : Int32) &&& 31).toUInt32).toInt32) &&& (255 : Int32)).toUInt32.toUInt16.toUInt32.toInt32))])) t → Steps p.tables e below (s₁.setTop (entryFrame m #[(.int p0), (.int p1), (.int p2), (.int p3), (.int p4), (.long q5)] maxLocals)) t := fun t k => by
          refine pre91 t ?_
          show Steps p.tables e below (T89.setTop (mkF m 78 #[.val (.int p0), .val (.int p1), .val (.int p2), .val (.int p3), .val (.int p4), .val (.long q5), .second, .val (.ref b1), .val (.ref b5), .val (.ref b9), .val (.int (1 : Int32)), .val (.int (0 : Int32)), .val (.int c1), .unset, .unset, .unset, .unset, .unset, .unset, .unset, .unset] [])) _
          refine XS.iloadN X89.here hx rfl (hb hby at_78) rfl ?_
          show Steps p.tables e below (T89.setTop (mkF m 79 #[.val (.int p0), .val (.int p1), .val (.int p2), .val (.int p3), .val (.int p4), .val (.long q5), .second, .val (.ref b1), .val (.ref b5), .val (.ref b9), .val (.int (1 : Int32)), .val (.int (0 : Int32)), .val (.int c1), .unset, .unset, .unset, .unset, .unset, .unset, .unset, .unset] [(.int p0)])) _
          refine XS.bipush X89.here hx rfl (hb hby at_79) ?_
          show Steps p.tables e below (T89.setTop (mkF m 81 #[.val (.int p0), .val (.int p1), .val (.int p2), .val (.int p3), .val (.int p4), .val (.long q5), .second, .val (.ref b1), .val (.ref b5), .val (.ref b9), .val (.int (1 : Int32)), .val (.int (0 : Int32)), .val (.int c1), .unset, .unset, .unset, .unset, .unset, .unset, .unset, .unset] [(.int (16 : Int32)), (.int p0)])) _
          refine XS.iushr X89.here hx rfl (hb hby at_81) rfl ?_
          show Steps p.tables e below (T89.setTop (mkF m 82 #[.val (.int p0), .val (.int p1), .val (.int p2), .val (.int p3), .val (.int p4), .val (.long q5), .second, .val (.ref b1), .val (.ref b5), .val (.ref b9), .val (.int (1 : Int32)), .val (.int (0 : Int32)), .val (.int c1), .unset, .unset, .unset, .unset, .unset, .unset, .unset, .unset] [(.int ((p0.toUInt32 >>> ((16 : Int32) &&& 31).toUInt32).toInt32))])) _
          refine XS.sipush X89.here hx rfl (hb hby at_82) ?_
          show Steps p.tables e below (T89.setTop (mkF m 85 #[.val (.int p0), .val (.int p1), .val (.int p2), .val (.int p3), .val (.int p4), .val (.long q5), .second, .val (.ref b1), .val (.ref b5), .val (.ref b9), .val (.int (1 : Int32)), .val (.int (0 : Int32)), .val (.int c1), .unset, .unset, .unset, .unset, .unset, .unset, .unset, .unset] [(.int (255 : Int32)), (.int ((p0.toUInt32 >>> ((16 : Int32) &&& 31).toUInt32).toInt32))])) _
          refine XS.iand X89.here hx rfl (hb hby at_85) rfl ?_
          show Steps p.tables e below (T89.setTop (mkF m 86 #[.val (.int p0), .val (.int p1), .val (.int p2), .val (.int p3), .val (.int p4), .val (.long q5), .second, .val (.ref b1), .val (.ref b5), .val (.ref b9), .val (.int (1 : Int32)), .val (.int (0 : Int32)), .val (.int c1), .unset, .unset, .unset, .unset, .unset, .unset, .unset, .unset] [(.int (((p0.toUInt32 >>> ((16 : Int32) &&& 31).toUInt32).toInt32) &&& (255 : Int32)))])) _
          refine XS.i2c X89.here hx rfl (hb hby at_86) rfl ?_
          exact k
        exact ⟨T89, ((((p0.toUInt32 >>> ((16 : Int32) &&& 31).toUInt32).toInt32) &&& (255 : Int32)).toUInt32.toUInt16.toUInt32.toInt32), _, X89, e89, N89, (own_c255 _), pre93⟩
      have pre94 : ∀ t, Steps p.tables e below (T92.setTop (mkF m 89 #[.val (.int p0), .val (.int p1), .val (.int p2), .val (.int p3), .val (.int p4), .val (.long q5), .second, .val (.ref b1), .val (.ref b5), .val (.ref b9), .val (.int (1 : Int32)), .val (.int (0 : Int32)), .val (.int c1), .val (.int c2), .unset, .unset, .unset, .unset, .unset, .unset, .unset] [])) t → Steps p.tables e below (s₁.setTop (entryFrame m #[(.int p0), (.int p1), (.int p2), (.int p3), (.int p4), (.long q5)] maxLocals)) t := fun t k => by
        refine pre92 t ?_
        show Steps p.tables e below (T92.setTop (mkF m 87 #[.val (.int p0), .val (.int p1), .val (.int p2), .val (.int p3), .val (.int p4), .val (.long q5), .second, .val (.ref b1), .val (.ref b5), .val (.ref b9), .val (.int (1 : Int32)), .val (.int (0 : Int32)), .val (.int c1), .unset, .unset, .unset, .unset, .unset, .unset, .unset, .unset] [(.int c2)])) _
        refine XS.istore X92.here hx rfl (hb hby at_87) rfl (l' := #[.val (.int p0), .val (.int p1), .val (.int p2), .val (.int p3), .val (.int p4), .val (.long q5), .second, .val (.ref b1), .val (.ref b5), .val (.ref b9), .val (.int (1 : Int32)), .val (.int (0 : Int32)), .val (.int c1), .val (.int c2), .unset, .unset, .unset, .unset, .unset, .unset, .unset]) rfl ?_
        exact k
      obtain ⟨T95, c3, Lx95, X95, e95, N95, hc3, pre95⟩ : ∃ (T95 : State) (c3 : Int32) (Lx95 : List Loc), Stand p l e room_1 s0 m #[(.int p0), (.int p1), (.int p2), (.int p3), (.int p4), (.long q5)] below meth c T95 Lx95 3 9 ∧ T95.heap = T11.heap ∧ Fr n0 Lx95 ∧ (¬ ((255 : Int32) < c3)) ∧ (∀ t, Steps p.tables e below (T95.setTop (mkF m 98 #[.val (.int p0), .val (.int p1), .val (.int p2), .val (.int p3), .val (.int p4), .val (.long q5), .second, .val (.ref b1), .val (.ref b5), .val (.ref b9), .val (.int (1 : Int32)), .val (.int (0 : Int32)), .val (.int c1), .val (.int c2), .unset, .unset, .unset, .unset, .unset, .unset, .unset] [(.int c3)])) t → Steps p.tables e below (s₁.setTop (entryFrame m #[(.int p0), (.int p1), (.int p2), (.int p3), (.int p4), (.long q5)] maxLocals)) t) := by
        have pre96 : ∀ t, Steps p.tables e below (T92.setTop (mkF m 98 #[.val (.int p0), .val (.int p1), .val (.int p2), .val (.int p3), .val (.int p4), .val (.long q5), .second, .val (.ref b1), .val (.ref b5), .val (.ref b9), .val (.int (1 : Int32)), .val (.int (0 : Int32)), .val (.int c1), .val (.int c2), .unset, .unset, .unset, .unset, .unset, .unset, .unset] [(.int ((((p0.toUInt32 >>> ((24 : Int32) &&& 31).toUInt32).toInt32) &&& (255 : Int32)).toUInt32.toUInt16.toUInt32.toInt32))])) t → Steps p.tables e below (s₁.setTop (entryFrame m #[(.int p0), (.int p1), (.int p2), (.int p3), (.int p4), (.long q5)] maxLocals)) t := fun t k => by
          refine pre94 t ?_
          show Steps p.tables e below (T92.setTop (mkF m 89 #[.val (.int p0), .val (.int p1), .val (.int p2), .val (.int p3), .val (.int p4), .val (.long q5), .second, .val (.ref b1), .val (.ref b5), .val (.ref b9), .val (.int (1 : Int32)), .val (.int (0 : Int32)), .val (.int c1), .val (.int c2), .unset, .unset, .unset, .unset, .unset, .unset, .unset] [])) _
          refine XS.iloadN X92.here hx rfl (hb hby at_89) rfl ?_
          show Steps p.tables e below (T92.setTop (mkF m 90 #[.val (.int p0), .val (.int p1), .val (.int p2), .val (.int p3), .val (.int p4), .val (.long q5), .second, .val (.ref b1), .val (.ref b5), .val (.ref b9), .val (.int (1 : Int32)), .val (.int (0 : Int32)), .val (.int c1), .val (.int c2), .unset, .unset, .unset, .unset, .unset, .unset, .unset] [(.int p0)])) _
          refine XS.bipush X92.here hx rfl (hb hby at_90) ?_
          show Steps p.tables e below (T92.setTop (mkF m 92 #[.val (.int p0), .val (.int p1), .val (.int p2), .val (.int p3), .val (.int p4), .val (.long q5), .second, .val (.ref b1), .val (.ref b5), .val (.ref b9), .val (.int (1 : Int32)), .val (.int (0 : Int32)), .val (.int c1), .val (.int c2), .unset, .unset, .unset, .unset, .unset, .unset, .unset] [(.int (24 : Int32)), (.int p0)])) _
          refine XS.iushr X92.here hx rfl (hb hby at_92) rfl ?_
          show Steps p.tables e below (T92.setTop (mkF m 93 #[.val (.int p0), .val (.int p1), .val (.int p2), .val (.int p3), .val (.int p4), .val (.long q5), .second, .val (.ref b1), .val (.ref b5), .val (.ref b9), .val (.int (1 : Int32)), .val (.int (0 : Int32)), .val (.int c1), .val (.int c2), .unset, .unset, .unset, .unset, .unset, .unset, .unset] [(.int ((p0.toUInt32 >>> ((24 : Int32) &&& 31).toUInt32).toInt32))])) _
          refine XS.sipush X92.here hx rfl (hb hby at_93) ?_
          show Steps p.tables e below (T92.setTop (mkF m 96 #[.val (.int p0), .val (.int p1), .val (.int p2), .val (.int p3), .val (.int p4), .val (.long q5), .second, .val (.ref b1), .val (.ref b5), .val (.ref b9), .val (.int (1 : Int32)), .val (.int (0 : Int32)), .val (.int c1), .val (.int c2), .unset, .unset, .unset, .unset, .unset, .unset, .unset] [(.int (255 : Int32)), (.int ((p0.toUInt32 >>> ((24 : Int32) &&& 31).toUInt32).toInt32))])) _
          refine XS.iand X92.here hx rfl (hb hby at_96) rfl ?_
          show Steps p.tables e below (T92.setTop (mkF m 97 #[.val (.int p0), .val (.int p1), .val (.int p2), .val (.int p3), .val (.int p4), .val (.long q5), .second, .val (.ref b1), .val (.ref b5), .val (.ref b9), .val (.int (1 : Int32)), .val (.int (0 : Int32)), .val (.int c1), .val (.int c2), .unset, .unset, .unset, .unset, .unset, .unset, .unset] [(.int (((p0.toUInt32 >>> ((24 : Int32) &&& 31).toUInt32).toInt32) &&& (255 : Int32)))])) _
          refine XS.i2c X92.here hx rfl (hb hby at_97) rfl ?_
          exact k
        exact ⟨T92, ((((p0.toUInt32 >>> ((24 : Int32) &&& 31).toUInt32).toInt32) &&& (255 : Int32)).toUInt32.toUInt16.toUInt32.toInt32), _, X92, e92, N92, (own_c255 _), pre96⟩
      obtain ⟨T97, h97, X97, e97, E97, A97, D97, -, st97⟩ := newO X95 hx hZ hown (hw _ (List.mem_of_getElem? (i := 18) rfl)) (hw _ (List.mem_of_getElem? (i := 19) rfl)) (hw _ (List.mem_of_getElem? (i := 20) rfl)) e95 (g := (mkF m 108 #[.val (.int p0), .val (.int p1), .val (.int p2), .val (.int p3), .val (.int p4), .val (.long q5), .second, .val (.ref b1), .val (.ref b5), .val (.ref b9), .val (.int (1 : Int32)), .val (.int (0 : Int32)), .val (.int c1), .val (.int c2), .val (.int c3), .val .null, .unset, .unset, .unset, .unset, .unset] [])) rfl (hb hby at_108) (by decide) (by decide)
      obtain ⟨b97, g97⟩ : ∃ z, z = T11.heap.size := ⟨_, rfl⟩
      rw [← g97] at A97 D97 st97
      have g_b97 : n0 ≤ b97 := Nat.le_trans Z12 (Nat.le_of_eq g97.symm)
      have Z98 : n0 ≤ h97.size := Nat.le_trans Z12 E97.1
      have F_text_b97 : Fld Z h97 b97 "com/example/semijoin/semijoin/query/Identifier" "text" "Ljava/lang/String;" .null := D97 (Or.inr (hw _ (List.mem_of_getElem? (i := 50) rfl))) (ty := (.object "java/lang/String")) (by decide)
      have F_quoted_b97 : Fld Z h97 b97 "com/example/semijoin/semijoin/query/Identifier" "quoted" "Z" (.int (0 : Int32)) := D97 (Or.inr (hw _ (List.mem_of_getElem? (i := 52) rfl))) (ty := .boolean) (by decide)
      have F_position_b97 : Fld Z h97 b97 "com/example/semijoin/semijoin/query/Identifier" "position" "Lcom/example/semijoin/semijoin/query/Position;" .null := D97 (Or.inr (hw _ (List.mem_of_getElem? (i := 54) rfl))) (ty := (.object "com/example/semijoin/semijoin/query/Position")) (by decide)
      have c99 : Sta Z h97 "java/lang/String" "COMPACT_STRINGS" "Z" (.int cs) := ((own_sta_keep ((own_sta_keep ((own_sta_keep (S_cs.ext E1) Kq3 (allS (own_plain_exa A1) all0)).ext E5) Kq7 (allS (own_plain_exa A5) all0)).ext E9) Kq11 (allS (own_plain_exa A9) all0)).ext E97)
      obtain ⟨_, _, ⟨T100, L100, k100, n100⟩, -, X100, ⟨Lc100, hQ100, l100, y100, z100⟩, st100⟩ := Jvm.LawKit.callS X97 hx (y := (⟨"java/lang/String", "valueOf", "(C)Ljava/lang/String;"⟩ : MethodName)) hown (mvT hZ (hw _ (List.mem_of_getElem? (i := 21) rfl))) (mvT hZ (hw _ (List.mem_of_getElem? (i := 22) rfl))) (mvT hZ (hw _ (List.mem_of_getElem? (i := 23) rfl))) (mvT hZ (hw _ (List.mem_of_getElem? (i := 24) rfl))) (by decide) (backOf (W := 2) (rmVO l Z a0 hw [] c1 cs h97 n0 Z98 c99 hcs hc1) hZ (hw _ (List.mem_of_getElem? (i := 24) rfl)) (hw _ (List.mem_of_getElem? (i := 23) rfl)) (by decide) (by decide)) (g := (mkF m 114 #[.val (.int p0), .val (.int p1), .val (.int p2), .val (.int p3), .val (.int p4), .val (.long q5), .second, .val (.ref b1), .val (.ref b5), .val (.ref b9), .val (.int (1 : Int32)), .val (.int (0 : Int32)), .val (.int c1), .val (.int c2), .val (.int c3), .val .null, .unset, .unset, .unset, .unset, .unset] [(.int c1), (.ref b97), (.ref b97)])) rfl (by rw [hml]; rfl) (argsL := [(.int c1)]) (rest := [(.ref b97), (.ref b97)]) (lenOf pd_6 rfl) rfl (by show 2 * 0 + _ ≤ _; exact Nat.le_of_eq rfl) (hb hby at_114) (fun _ _ => ⟨rfl, e97, (by decide : 4 + 2 ≤ _), (by decide : 12 + 5 ≤ _)⟩)
      dsimp only [Pt.U, Pt.locs, Pt.cells, Pt.slots] at X100 l100 y100 z100 st100 hQ100
      subst l100 y100 z100
      obtain ⟨ar100, rfl, Nq100, Kq100⟩ := hQ100
      have N100 := Fr.app N95 Nq100
      have Z101 : n0 ≤ T100.heap.size := Nat.le_trans Z98 Kq100.1
      have c102 : Exa Z T100.heap b97 "com/example/semijoin/semijoin/query/Identifier" := (A97.keep Kq100)
      have c103 : Fld Z T100.heap b97 "com/example/semijoin/semijoin/query/Identifier" "text" "Ljava/lang/String;" .null := (F_text_b97.keep Kq100 nin0)
      have c104 : Fld Z T100.heap b97 "com/example/semijoin/semijoin/query/Identifier" "quoted" "Z" (.int (0 : Int32)) := (F_quoted_b97.keep Kq100 nin0)
      have c105 : Fld Z T100.heap b97 "com/example/semijoin/semijoin/query/Identifier" "position" "Lcom/example/semijoin/semijoin/query/Position;" .null := (F_position_b97.keep Kq100 nin0)
      obtain ⟨_, _, ⟨T106, L106, k106, n106⟩, -, X106, ⟨Lc106, hQ106, l106, y106, z106⟩, st106⟩ := X100.specialBack hx (y := (⟨"com/example/semijoin/semijoin/query/Identifier", "<init>", "(Ljava/lang/String;ZLcom/example/semijoin/semijoin/query/Position;)V"⟩ : MethodName)) rfl hown (mvT hZ (hw _ (List.mem_of_getElem? (i := 45) rfl))) (mvT hZ (hw _ (List.mem_of_getElem? (i := 46) rfl))) (mvT hZ (hw _ (List.mem_of_getElem? (i := 47) rfl))) (by decide) (backOf (W := 1) (rmII l Z a0 hw [] b97 ar100 (if (p0 &&& (4 : Int32)) = (0 : Int32) then (0 : Int32) else (1 : Int32)) b1 T100.heap n0 Z101 c102 c103 c104 c105 g_b97) hZ (hw _ (List.mem_of_getElem? (i := 47) rfl)) (hw _ (List.mem_of_getElem? (i := 20) rfl)) (by decide) (by decide)) (g := (mkF m 130 #[.val (.int p0), .val (.int p1), .val (.int p2), .val (.int p3), .val (.int p4), .val (.long q5), .second, .val (.ref b1), .val (.ref b5), .val (.ref b9), .val (.int (1 : Int32)), .val (.int (0 : Int32)), .val (.int c1), .val (.int c2), .val (.int c3), .val .null, .unset, .unset, .unset, .unset, .unset] [(.ref b1), (.int (if (p0 &&& (4 : Int32)) = (0 : Int32) then (0 : Int32) else (1 : Int32))), (.ref ar100), (.ref b97), (.ref b97)])) rfl (by rw [hml]; rfl) (Steps.refl _) (a := b97) (argsL := [(.ref ar100), (.int (if (p0 &&& (4 : Int32)) = (0 : Int32) then (0 : Int32) else (1 : Int32))), (.ref b1)]) (rest := [(.ref b97)]) (lenOf pd_7 rfl) rfl (by show 2 * 0 + _ ≤ _; exact Nat.le_of_eq rfl) (hb hby at_130) (fun _ _ => ⟨rfl, rfl, (by decide : 6 + 0 ≤ _), (by decide : 17 + 0 ≤ _)⟩)
      dsimp only [Pt.U, Pt.locs, Pt.cells, Pt.slots] at X106 l106 y106 z106 st106 hQ106
      subst l106 y106 z106
      obtain ⟨rfl, Nq106, Kq106, Eq106, Fq106⟩ := hQ106
      have N106 := Fr.app N100 Nq106
      have Z107 : n0 ≤ T106.heap.size := Nat.le_trans Z101 Kq106.1
      obtain ⟨T108, h108, X108, e108, E108, A108, D108, -, st108⟩ := newO X106 hx hZ hown (hw _ (List.mem_of_getElem? (i := 18) rfl)) (hw _ (List.mem_of_getElem? (i := 19) rfl)) (hw _ (List.mem_of_getElem? (i := 20) rfl)) rfl (g := (mkF m 171 #[.val (.int p0), .val (.int p1), .val (.int p2), .val (.int p3), .val (.int p4), .val (.long q5), .second, .val (.ref b1), .val (.ref b5), .val (.ref b9), .val (.int (1 : Int32)), .val (.int (0 : Int32)), .val (.int c1), .val (.int c2), .val (.int c3), .val (.ref b97), .val .null, .unset, .unset, .unset, .unset] [])) rfl (hb hby at_171) (by decide) (by decide)
      obtain ⟨b108, g108⟩ : ∃ z, z = T106.heap.size := ⟨_, rfl⟩
      rw [← g108] at A108 D108 st108
      have g_b108 : n0 ≤ b108 := Nat.le_trans Z107 (Nat.le_of_eq g108.symm)
      have Z109 : n0 ≤ h108.size := Nat.le_trans Z107 E108.1
      have F_text_b108 : Fld Z h108 b108 "com/example/semijoin/semijoin/query/Identifier" "text" "Ljava/lang/String;" .null := D108 (Or.inr (hw _ (List.mem_of_getElem? (i := 50) rfl))) (ty := (.object "java/lang/String")) (by decide)
      have F_quoted_b108 : Fld Z h108 b108 "com/example/semijoin/semijoin/query/Identifier" "quoted" "Z" (.int (0 : Int32)) := D108 (Or.inr (hw _ (List.mem_of_getElem? (i := 52) rfl))) (ty := .boolean) (by decide)
      have F_position_b108 : Fld Z h108 b108 "com/example/semijoin/semijoin/query/Identifier" "position" "Lcom/example/semijoin/semijoin/query/Position;" .null := D108 (Or.inr (hw _ (List.mem_of_getElem? (i := 54) rfl))) (ty := (.object "com/example/semijoin/semijoin/query/Position")) (by decide)
      have c110 : Sta Z h108 "java/lang/String" "COMPACT_STRINGS" "Z" (.int cs) := ((own_sta_keep (own_sta_keep c99 Kq100 all0) Kq106 (allS (own_plain_exa c102) all0)).ext E108)
      obtain ⟨_, _, ⟨T111, L111, k111, n111⟩, -, X111, ⟨Lc111, hQ111, l111, y111, z111⟩, st111⟩ := Jvm.LawKit.callS X108 hx (y := (⟨"java/lang/String", "valueOf", "(C)Ljava/lang/String;"⟩ : MethodName)) hown (mvT hZ (hw _ (List.mem_of_getElem? (i := 21) rfl))) (mvT hZ (hw _ (List.mem_of_getElem? (i := 22) rfl))) (mvT hZ (hw _ (List.mem_of_getElem? (i := 23) rfl))) (mvT hZ (hw _ (List.mem_of_getElem? (i := 24) rfl))) (by decide) (backOf (W := 2) (rmVO l Z a0 hw [] c3 cs h108 n0 Z109 c110 hcs hc3) hZ (hw _ (List.mem_of_getElem? (i := 24) rfl)) (hw _ (List.mem_of_getElem? (i := 23) rfl)) (by decide) (by decide)) (g := (mkF m 177 #[.val (.int p0), .val (.int p1), .val (.int p2), .val (.int p3), .val (.int p4), .val (.long q5), .second, .val (.ref b1), .val (.ref b5), .val (.ref b9), .val (.int (1 : Int32)), .val (.int (0 : Int32)), .val (.int c1), .val (.int c2), .val (.int c3), .val (.ref b97), .val .null, .unset, .unset, .unset, .unset] [(.int c3), (.ref b108), (.ref b108)])) rfl (by rw [hml]; rfl) (argsL := [(.int c3)]) (rest := [(.ref b108), (.ref b108)]) (lenOf pd_6 rfl) rfl (by show 2 * 0 + _ ≤ _; exact Nat.le_of_eq rfl) (hb hby at_177) (fun _ _ => ⟨rfl, e108, (by decide : 7 + 2 ≤ _), (by decide : 20 + 5 ≤ _)⟩)
      dsimp only [Pt.U, Pt.locs, Pt.cells, Pt.slots] at X111 l111 y111 z111 st111 hQ111
      subst l111 y111 z111
      obtain ⟨ar111, rfl, Nq111, Kq111⟩ := hQ111
      have N111 := Fr.app N106 Nq111
      have Z112 : n0 ≤ T111.heap.size := Nat.le_trans Z109 Kq111.1
      have c113 : Exa Z T111.heap b108 "com/example/semijoin/semijoin/query/Identifier" := (A108.keep Kq111)
      have c114 : Fld Z T111.heap b108 "com/example/semijoin/semijoin/query/Identifier" "text" "Ljava/lang/String;" .null := (F_text_b108.keep Kq111 nin0)
      have c115 : Fld Z T111.heap b108 "com/example/semijoin/semijoin/query/Identifier" "quoted" "Z" (.int (0 : Int32)) := (F_quoted_b108.keep Kq111 nin0)
      have c116 : Fld Z T111.heap b108 "com/example/semijoin/semijoin/query/Identifier" "position" "Lcom/example/semijoin/semijoin/query/Position;" .null := (F_position_b108.keep Kq111 nin0)
      obtain ⟨_, _, ⟨T117, L117, k117, n117⟩, -, X117, ⟨Lc117, hQ117, l117, y117, z117⟩, st117⟩ := X111.specialBack hx (y := (⟨"com/example/semijoin/semijoin/query/Identifier", "<init>", "(Ljava/lang/String;ZLcom/example/semijoin/semijoin/query/Position;)V"⟩ : MethodName)) rfl hown (mvT hZ (hw _ (List.mem_of_getElem? (i := 45) rfl))) (mvT hZ (hw _ (List.mem_of_getElem? (i := 46) rfl))) (mvT hZ (hw _ (List.mem_of_getElem? (i := 47) rfl))) (by decide) (backOf (W := 1) (rmII l Z a0 hw [] b108 ar111 (if (p0 &&& (16 : Int32)) = (0 : Int32) then (0 : Int32) else (1 : Int32)) b9 T111.heap n0 Z112 c113 c114 c115 c116 g_b108) hZ (hw _ (List.mem_of_getElem? (i := 47) rfl)) (hw _ (List.mem_of_getElem? (i := 20) rfl)) (by decide) (by decide)) (g := (mkF m 194 #[.val (.int p0), .val (.int p1), .val (.int p2), .val (.int p3), .val (.int p4), .val (.long q5), .second, .val (.ref b1), .val (.ref b5), .val (.ref b9), .val (.int (1 : Int32)), .val (.int (0 : Int32)), .val (.int c1), .val (.int c2), .val (.int c3), .val (.ref b97), .val .null, .unset, .unset, .unset, .unset] [(.ref b9), (.int (if (p0 &&& (16 : Int32)) = (0 : Int32) then (0 : Int32) else (1 : Int32))), (.ref ar111), (.ref b108), (.ref b108)])) rfl (by rw [hml]; rfl) (Steps.refl _) (a := b108) (argsL := [(.ref ar111), (.int (if (p0 &&& (16 : Int32)) = (0 : Int32) then (0 : Int32) else (1 : Int32))), (.ref b9)]) (rest := [(.ref b108)]) (lenOf pd_7 rfl) rfl (by show 2 * 0 + _ ≤ _; exact Nat.le_of_eq rfl) (hb hby at_194) (fun _ _ => ⟨rfl, rfl, (by decide : 9 + 0 ≤ _), (by decide : 25 + 0 ≤ _)⟩)
      dsimp only [Pt.U, Pt.locs, Pt.cells, Pt.slots] at X117 l117 y117 z117 st117 hQ117
      subst l117 y117 z117
      obtain ⟨rfl, Nq117, Kq117, Eq117, Fq117⟩ := hQ117
      have N117 := Fr.app N111 Nq117
      have Z118 : n0 ≤ T117.heap.size := Nat.le_trans Z112 Kq117.1
      obtain ⟨T119, h119, X119, e119, E119, A119, D119, -, st119⟩ := newO X117 hx hZ hown (hw _ (List.mem_of_getElem? (i := 55) rfl)) (hw _ (List.mem_of_getElem? (i := 56) rfl)) (hw _ (List.mem_of_getElem? (i := 57) rfl)) rfl (g := (mkF m 199 #[.val (.int p0), .val (.int p1), .val (.int p2), .val (.int p3), .val (.int p4), .val (.long q5), .second, .val (.ref b1), .val (.ref b5), .val (.ref b9), .val (.int (1 : Int32)), .val (.int (0 : Int32)), .val (.int c1), .val (.int c2), .val (.int c3), .val (.ref b97), .val .null, .val (.ref b108), .unset, .unset, .unset] [])) rfl (hb hby at_199) (by decide) (by decide)
      obtain ⟨b119, g119⟩ : ∃ z, z = T117.heap.size := ⟨_, rfl⟩
      rw [← g119] at A119 D119 st119
      have g_b119 : n0 ≤ b119 := Nat.le_trans Z118 (Nat.le_of_eq g119.symm)
      have Z120 : n0 ≤ h119.size := Nat.le_trans Z118 E119.1
      have F_schema_b119 : Fld Z h119 b119 "com/example/semijoin/semijoin/query/ColumnRef" "schema" "Lcom/example/semijoin/semijoin/query/Identifier;" .null := D119 (Or.inr (hw _ (List.mem_of_getElem? (i := 63) rfl))) (ty := (.object "com/example/semijoin/semijoin/query/Identifier")) (by decide)
      have F_qualifier_b119 : Fld Z h119 b119 "com/example/semijoin/semijoin/query/ColumnRef" "qualifier" "Lcom/example/semijoin/semijoin/query/Identifier;" .null := D119 (Or.inr (hw _ (List.mem_of_getElem? (i := 65) rfl))) (ty := (.object "com/example/semijoin/semijoin/query/Identifier")) (by decide)
      have F_name_b119 : Fld Z h119 b119 "com/example/semijoin/semijoin/query/ColumnRef" "name" "Lcom/example/semijoin/semijoin/query/Identifier;" .null := D119 (Or.inr (hw _ (List.mem_of_getElem? (i := 67) rfl))) (ty := (.object "com/example/semijoin/semijoin/query/Identifier")) (by decide)
      obtain ⟨_, _, ⟨T121, L121, k121, n121⟩, -, X121, ⟨Lc121, hQ121, l121, y121, z121⟩, st121⟩ := X119.specialBack hx (y := (⟨"com/example/semijoin/semijoin/query/ColumnRef", "<init>", "(Lcom/example/semijoin/semijoin/query/Identifier;Lcom/example/semijoin/semijoin/query/Identifier;Lcom/example/semijoin/semijoin/query/Identifier;)V"⟩ : MethodName)) rfl hown (mvT hZ (hw _ (List.mem_of_getElem? (i := 58) rfl))) (mvT hZ (hw _ (List.mem_of_getElem? (i := 59) rfl))) (mvT hZ (hw _ (List.mem_of_getElem? (i := 60) rfl))) (by decide) (backOf (W := 1) (rmCI10 l Z a0 hw [] b119 b97 b108 h119 n0 Z120 A119 F_schema_b119 F_qualifier_b119 F_name_b119 g_b119) hZ (hw _ (List.mem_of_getElem? (i := 60) rfl)) (hw _ (List.mem_of_getElem? (i := 57) rfl)) (by decide) (by decide)) (g := (mkF m 209 #[.val (.int p0), .val (.int p1), .val (.int p2), .val (.int p3), .val (.int p4), .val (.long q5), .second, .val (.ref b1), .val (.ref b5), .val (.ref b9), .val (.int (1 : Int32)), .val (.int (0 : Int32)), .val (.int c1), .val (.int c2), .val (.int c3), .val (.ref b97), .val .null, .val (.ref b108), .unset, .unset, .unset] [(.ref b108), .null, (.ref b97), (.ref b119), (.ref b119)])) rfl (by rw [hml]; rfl) (Steps.refl _) (a := b119) (argsL := [(.ref b97), .null, (.ref b108)]) (rest := [(.ref b119)]) (lenOf pd_8 rfl) rfl (by show 2 * 0 + _ ≤ _; exact Nat.le_of_eq rfl) (hb hby at_209) (fun _ _ => ⟨rfl, e119, (by decide : 10 + 0 ≤ _), (by decide : 28 + 0 ≤ _)⟩)
      dsimp only [Pt.U, Pt.locs, Pt.cells, Pt.slots] at X121 l121 y121 z121 st121 hQ121
      subst l121 y121 z121
      obtain ⟨rfl, Nq121, Kq121, Eq121, Fs121, Fu121, Fn121⟩ := hQ121
      have N121 := Fr.app N117 Nq121
      have Z122 : n0 ≤ T121.heap.size := Nat.le_trans Z120 Kq121.1
      have c123 : Exa Z T121.heap b97 "com/example/semijoin/semijoin/query/Identifier" := (((((Eq106.ext E108).keep Kq111).keep Kq117).ext E119).keep Kq121)
      have c124 : Exa Z T121.heap b108 "com/example/semijoin/semijoin/query/Identifier" := ((Eq117.ext E119).keep Kq121)
      have c125 : Fld Z T121.heap b97 "com/example/semijoin/semijoin/query/Identifier" "position" "Lcom/example/semijoin/semijoin/query/Position;" (.ref b1) := (((((Fq106.ext E108).keep Kq111 nin0).keep Kq117 (ninS (Nat.ne_of_lt (Nat.lt_of_lt_of_le (Nat.lt_of_lt_of_le (Nat.lt_of_lt_of_le A97.lt Kq100.1) Kq106.1) (Nat.le_of_eq g108.symm))) nin0)).ext E119).keep Kq121 (ninS (Nat.ne_of_lt (Nat.lt_of_lt_of_le (Nat.lt_of_lt_of_le (Nat.lt_of_lt_of_le (Nat.lt_of_lt_of_le (Nat.lt_of_lt_of_le (Nat.lt_of_lt_of_le A97.lt Kq100.1) Kq106.1) E108.1) Kq111.1) Kq117.1) (Nat.le_of_eq g119.symm))) nin0))
      have c126 : Fld Z T121.heap b108 "com/example/semijoin/semijoin/query/Identifier" "position" "Lcom/example/semijoin/semijoin/query/Position;" (.ref b9) := ((Fq117.ext E119).keep Kq121 (ninS (Nat.ne_of_lt (Nat.lt_of_lt_of_le (Nat.lt_of_lt_of_le (Nat.lt_of_lt_of_le A108.lt Kq111.1) Kq117.1) (Nat.le_of_eq g119.symm))) nin0))
      obtain ⟨cq127, kq127, q127a, q127b, q127c⟩ := isOf hZ rfl Eq121
      obtain ⟨_, _, ⟨T127, L127, k127, n127⟩, -, X127, ⟨Lc127, hQ127, l127, y127, z127⟩, st127⟩ := X121.virtualBack hx (y := (⟨"com/example/semijoin/semijoin/query/ColumnRef", "getPosition", "()Lcom/example/semijoin/semijoin/query/Position;"⟩ : MethodName)) (z := (⟨"com/example/semijoin/semijoin/query/ColumnRef", "getPosition", "()Lcom/example/semijoin/semijoin/query/Position;"⟩ : MethodName)) hown (mvT hZ (hw _ (List.mem_of_getElem? (i := 68) rfl))) (mvT hZ (hw _ (List.mem_of_getElem? (i := 69) rfl))) (notFace_of_selects (args := #[]) (mvT hZ (hw _ (List.mem_of_getElem? (i := 71) rfl)))) (mvT hZ (hw _ (List.mem_of_getElem? (i := 71) rfl))) (mvT hZ (hw _ (List.mem_of_getElem? (i := 70) rfl))) (by decide) (backOf (W := 0) (rmCG1 l Z a0 hw [] b119 b97 b108 b1 b9 T121.heap n0 Z122 Fn121 Fs121 c123 c124 c125 c126) hZ (hw _ (List.mem_of_getElem? (i := 72) rfl)) (hw _ (List.mem_of_getElem? (i := 57) rfl)) (by decide) (by decide)) q127a q127c (g := (mkF m 216 #[.val (.int p0), .val (.int p1), .val (.int p2), .val (.int p3), .val (.int p4), .val (.long q5), .second, .val (.ref b1), .val (.ref b5), .val (.ref b9), .val (.int (1 : Int32)), .val (.int (0 : Int32)), .val (.int c1), .val (.int c2), .val (.int c3), .val (.ref b97), .val .null, .val (.ref b108), .val (.ref b119), .unset, .unset] [(.ref b119)])) rfl (by rw [hml]; rfl) (Steps.refl _) (argsL := []) (rest := []) (lenOf pd_4 rfl) rfl (by show 2 * 0 + _ ≤ _; exact Nat.le_of_eq rfl) (hb hby at_216) (fun _ _ => ⟨rfl, rfl, (by decide : 10 + 0 ≤ _), (by decide : 28 + 0 ≤ _)⟩)
      dsimp only [Pt.U, Pt.locs, Pt.cells, Pt.slots] at X127 l127 y127 z127 st127 hQ127
      subst l127 y127 z127
      obtain ⟨rfl, Nq127, hh127⟩ := hQ127
      have N127 := Fr.app N121 Nq127
      have e127 : T127.heap = T121.heap := hh127
      have pre128 : ∀ t, Steps p.tables e below (T127.setTop (mkF m 261 #[.val (.int p0), .val (.int p1), .val (.int p2), .val (.int p3), .val (.int p4), .val (.long q5), .second, .val (.ref b1), .val (.ref b5), .val (.ref b9), .val (.int (1 : Int32)), .val (.int (0 : Int32)), .val (.int c1), .val (.int c2), .val (.int c3), .val (.ref b97), .val .null, .val (.ref b108), .val (.ref b119), .val (.ref b1), .val (.ref b1)] [(.int (1 : Int32))])) t → Steps p.tables e below (s₁.setTop (entryFrame m #[(.int p0), (.int p1), (.int p2), (.int p3), (.int p4), (.long q5)] maxLocals)) t := fun t k => by
        refine pre95 t ?_
        show Steps p.tables e below (T95.setTop (mkF m 98 #[.val (.int p0), .val (.int p1), .val (.int p2), .val (.int p3), .val (.int p4), .val (.long q5), .second, .val (.ref b1), .val (.ref b5), .val (.ref b9), .val (.int (1 : Int32)), .val (.int (0 : Int32)), .val (.int c1), .val (.int c2), .unset, .unset, .unset, .unset, .unset, .unset, .unset] [(.int c3)])) _
        refine XS.istore X95.here hx rfl (hb hby at_98) rfl (l' := #[.val (.int p0), .val (.int p1), .val (.int p2), .val (.int p3), .val (.int p4), .val (.long q5), .second, .val (.ref b1), .val (.ref b5), .val (.ref b9), .val (.int (1 : Int32)), .val (.int (0 : Int32)), .val (.int c1), .val (.int c2), .val (.int c3), .unset, .unset, .unset, .unset, .unset, .unset]) rfl ?_
        show Steps p.tables e below (T95.setTop (mkF m 100 #[.val (.int p0), .val (.int p1), .val (.int p2), .val (.int p3), .val (.int p4), .val (.long q5), .second, .val (.ref b1), .val (.ref b5), .val (.ref b9), .val (.int (1 : Int32)), .val (.int (0 : Int32)), .val (.int c1), .val (.int c2), .val (.int c3), .unset, .unset, .unset, .unset, .unset, .unset] [])) _
        refine XS.aconstNull X95.here hx rfl (hb hby at_100) ?_
        show Steps p.tables e below (T95.setTop (mkF m 101 #[.val (.int p0), .val (.int p1), .val (.int p2), .val (.int p3), .val (.int p4), .val (.long q5), .second, .val (.ref b1), .val (.ref b5), .val (.ref b9), .val (.int (1 : Int32)), .val (.int (0 : Int32)), .val (.int c1), .val (.int c2), .val (.int c3), .unset, .unset, .unset, .unset, .unset, .unset] [.null])) _
        refine XS.astore X95.here hx rfl (hb hby at_101) rfl rfl (l' := #[.val (.int p0), .val (.int p1), .val (.int p2), .val (.int p3), .val (.int p4), .val (.long q5), .second, .val (.ref b1), .val (.ref b5), .val (.ref b9), .val (.int (1 : Int32)), .val (.int (0 : Int32)), .val (.int c1), .val (.int c2), .val (.int c3), .val .null, .unset, .unset, .unset, .unset, .unset]) rfl ?_
        show Steps p.tables e below (T95.setTop (mkF m 103 #[.val (.int p0), .val (.int p1), .val (.int p2), .val (.int p3), .val (.int p4), .val (.long q5), .second, .val (.ref b1), .val (.ref b5), .val (.ref b9), .val (.int (1 : Int32)), .val (.int (0 : Int32)), .val (.int c1), .val (.int c2), .val (.int c3), .val .null, .unset, .unset, .unset, .unset, .unset] [])) _
        refine XS.iload X95.here hx rfl (hb hby at_103) rfl ?_
        show Steps p.tables e below (T95.setTop (mkF m 105 #[.val (.int p0), .val (.int p1), .val (.int p2), .val (.int p3), .val (.int p4), .val (.long q5), .second, .val (.ref b1), .val (.ref b5), .val (.ref b9), .val (.int (1 : Int32)), .val (.int (0 : Int32)), .val (.int c1), .val (.int c2), .val (.int c3), .val .null, .unset, .unset, .unset, .unset, .unset] [(.int (1 : Int32))])) _
        refine XS.ifNo X95.here hx rfl (hb hby at_105) rfl ((if0 _ _).trans (feq (by decide : ¬ ((1 : Int32) = (0 : Int32)))).1) ?_
        show Steps p.tables e below (T95.setTop (mkF m 108 #[.val (.int p0), .val (.int p1), .val (.int p2), .val (.int p3), .val (.int p4), .val (.long q5), .second, .val (.ref b1), .val (.ref b5), .val (.ref b9), .val (.int (1 : Int32)), .val (.int (0 : Int32)), .val (.int c1), .val (.int c2), .val (.int c3), .val .null, .unset, .unset, .unset, .unset, .unset] [])) _
        refine st97 _ ?_
        show Steps p.tables e below (T97.setTop (mkF m 111 #[.val (.int p0), .val (.int p1), .val (.int p2), .val (.int p3), .val (.int p4), .val (.long q5), .second, .val (.ref b1), .val (.ref b5), .val (.ref b9), .val (.int (1 : Int32)), .val (.int (0 : Int32)), .val (.int c1), .val (.int c2), .val (.int c3), .val .null, .unset, .unset, .unset, .unset, .unset] [(.ref b97)])) _
        refine XS.dup X97.here hx rfl (hb hby at_111) rfl rfl ?_
        show Steps p.tables e below (T97.setTop (mkF m 112 #[.val (.int p0), .val (.int p1), .val (.int p2), .val (.int p3), .val (.int p4), .val (.long q5), .second, .val (.ref b1), .val (.ref b5), .val (.ref b9), .val (.int (1 : Int32)), .val (.int (0 : Int32)), .val (.int c1), .val (.int c2), .val (.int c3), .val .null, .unset, .unset, .unset, .unset, .unset] [(.ref b97), (.ref b97)])) _
        refine XS.iload X97.here hx rfl (hb hby at_112) rfl ?_
        show Steps p.tables e below (T97.setTop (mkF m 114 #[.val (.int p0), .val (.int p1), .val (.int p2), .val (.int p3), .val (.int p4), .val (.long q5), .second, .val (.ref b1), .val (.ref b5), .val (.ref b9), .val (.int (1 : Int32)), .val (.int (0 : Int32)), .val (.int c1), .val (.int c2), .val (.int c3), .val .null, .unset, .unset, .unset, .unset, .unset] [(.int c1), (.ref b97), (.ref b97)])) _
        refine st100 _ ?_
        show Steps p.tables e below (T100.setTop (mkF m 117 #[.val (.int p0), .val (.int p1), .val (.int p2), .val (.int p3), .val (.int p4), .val (.long q5), .second, .val (.ref b1), .val (.ref b5), .val (.ref b9), .val (.int (1 : Int32)), .val (.int (0 : Int32)), .val (.int c1), .val (.int c2), .val (.int c3), .val .null, .unset, .unset, .unset, .unset, .unset] [(.ref ar100), (.ref b97), (.ref b97)])) _
        refine XS.iloadN X100.here hx rfl (hb hby at_117) rfl ?_
        show Steps p.tables e below (T100.setTop (mkF m 118 #[.val (.int p0), .val (.int p1), .val (.int p2), .val (.int p3), .val (.int p4), .val (.long q5), .second, .val (.ref b1), .val (.ref b5), .val (.ref b9), .val (.int (1 : Int32)), .val (.int (0 : Int32)), .val (.int c1), .val (.int c2), .val (.int c3), .val .null, .unset, .unset, .unset, .unset, .unset] [(.int p0), (.ref ar100), (.ref b97), (.ref b97)])) _
        refine XS.iconst X100.here hx rfl (hb hby at_118) ?_
        show Steps p.tables e below (T100.setTop (mkF m 119 #[.val (.int p0), .val (.int p1), .val (.int p2), .val (.int p3), .val (.int p4), .val (.long q5), .second, .val (.ref b1), .val (.ref b5), .val (.ref b9), .val (.int (1 : Int32)), .val (.int (0 : Int32)), .val (.int c1), .val (.int c2), .val (.int c3), .val .null, .unset, .unset, .unset, .unset, .unset] [(.int (4 : Int32)), (.int p0), (.ref ar100), (.ref b97), (.ref b97)])) _
        refine XS.iand X100.here hx rfl (hb hby at_119) rfl ?_
        show Steps p.tables e below (T100.setTop (mkF m 120 #[.val (.int p0), .val (.int p1), .val (.int p2), .val (.int p3), .val (.int p4), .val (.long q5), .second, .val (.ref b1), .val (.ref b5), .val (.ref b9), .val (.int (1 : Int32)), .val (.int (0 : Int32)), .val (.int c1), .val (.int c2), .val (.int c3), .val .null, .unset, .unset, .unset, .unset, .unset] [(.int (p0 &&& (4 : Int32))), (.ref ar100), (.ref b97), (.ref b97)])) _
        refine own_boolI (g := (mkF m 120 #[.val (.int p0), .val (.int p1), .val (.int p2), .val (.int p3), .val (.int p4), .val (.long q5), .second, .val (.ref b1), .val (.ref b5), .val (.ref b9), .val (.int (1 : Int32)), .val (.int (0 : Int32)), .val (.int c1), .val (.int c2), .val (.int c3), .val .null, .unset, .unset, .unset, .unset, .unset] [(.int (p0 &&& (4 : Int32))), (.ref ar100), (.ref b97), (.ref b97)])) X100.here hx rfl (hb hby at_120) (hb hby at_123) (hb hby at_124) (hb hby at_127) rfl (by exact own_b_eq _ _) ?_
        show Steps p.tables e below (T100.setTop (mkF m 128 #[.val (.int p0), .val (.int p1), .val (.int p2), .val (.int p3), .val (.int p4), .val (.long q5), .second, .val (.ref b1), .val (.ref b5), .val (.ref b9), .val (.int (1 : Int32)), .val (.int (0 : Int32)), .val (.int c1), .val (.int c2), .val (.int c3), .val .null, .unset, .unset, .unset, .unset, .unset] [(.int (if (p0 &&& (4 : Int32)) = (0 : Int32) then (0 : Int32) else (1 : Int32))), (.ref ar100), (.ref b97), (.ref b97)])) _
        refine XS.aload X100.here hx rfl (hb hby at_128) rfl rfl ?_
        show Steps p.tables e below (T100.setTop (mkF m 130 #[.val (.int p0), .val (.int p1), .val (.int p2), .val (.int p3), .val (.int p4), .val (.long q5), .second, .val (.ref b1), .val (.ref b5), .val (.ref b9), .val (.int (1 : Int32)), .val (.int (0 : Int32)), .val (.int c1), .val (.int c2), .val (.int c3), .val .null, .unset, .unset, .unset, .unset, .unset] [(.ref b1), (.int (if (p0 &&& (4 : Int32)) = (0 : Int32) then (0 : Int32) else (1 : Int32))), (.ref ar100), (.ref b97), (.ref b97)])) _
        refine st106.trans ?_
        show Steps p.tables e below (T106.setTop (mkF m 133 #[.val (.int p0), .val (.int p1), .val (.int p2), .val (.int p3), .val (.int p4), .val (.long q5), .second, .val (.ref b1), .val (.ref b5), .val (.ref b9), .val (.int (1 : Int32)), .val (.int (0 : Int32)), .val (.int c1), .val (.int c2), .val (.int c3), .val .null, .unset, .unset, .unset, .unset, .unset] [(.ref b97)])) _
        refine XS.astore X106.here hx rfl (hb hby at_133) rfl rfl (l' := #[.val (.int p0), .val (.int p1), .val (.int p2), .val (.int p3), .val (.int p4), .val (.long q5), .second, .val (.ref b1), .val (.ref b5), .val (.ref b9), .val (.int (1 : Int32)), .val (.int (0 : Int32)), .val (.int c1), .val (.int c2), .val (.int c3), .val (.ref b97), .unset, .unset, .unset, .unset, .unset]) rfl ?_
        show Steps p.tables e below (T106.setTop (mkF m 135 #[.val (.int p0), .val (.int p1), .val (.int p2), .val (.int p3), .val (.int p4), .val (.long q5), .second, .val (.ref b1), .val (.ref b5), .val (.ref b9), .val (.int (1 : Int32)), .val (.int (0 : Int32)), .val (.int c1), .val (.int c2), .val (.int c3), .val (.ref b97), .unset, .unset, .unset, .unset, .unset] [])) _
        refine XS.aconstNull X106.here hx rfl (hb hby at_135) ?_
        show Steps p.tables e below (T106.setTop (mkF m 136 #[.val (.int p0), .val (.int p1), .val (.int p2), .val (.int p3), .val (.int p4), .val (.long q5), .second, .val (.ref b1), .val (.ref b5), .val (.ref b9), .val (.int (1 : Int32)), .val (.int (0 : Int32)), .val (.int c1), .val (.int c2), .val (.int c3), .val (.ref b97), .unset, .unset, .unset, .unset, .unset] [.null])) _
        refine XS.astore X106.here hx rfl (hb hby at_136) rfl rfl (l' := #[.val (.int p0), .val (.int p1), .val (.int p2), .val (.int p3), .val (.int p4), .val (.long q5), .second, .val (.ref b1), .val (.ref b5), .val (.ref b9), .val (.int (1 : Int32)), .val (.int (0 : Int32)), .val (.int c1), .val (.int c2), .val (.int c3), .val (.ref b97), .val .null, .unset, .unset, .unset, .unset]) rfl ?_
        show Steps p.tables e below (T106.setTop (mkF m 138 #[.val (.int p0), .val (.int p1), .val (.int p2), .val (.int p3), .val (.int p4), .val (.long q5), .second, .val (.ref b1), .val (.ref b5), .val (.ref b9), .val (.int (1 : Int32)), .val (.int (0 : Int32)), .val (.int c1), .val (.int c2), .val (.int c3), .val (.ref b97), .val .null, .unset, .unset, .unset, .unset] [])) _
        refine XS.iload X106.here hx rfl (hb hby at_138) rfl ?_
        show Steps p.tables e below (T106.setTop (mkF m 140 #[.val (.int p0), .val (.int p1), .val (.int p2), .val (.int p3), .val (.int p4), .val (.long q5), .second, .val (.ref b1), .val (.ref b5), .val (.ref b9), .val (.int (1 : Int32)), .val (.int (0 : Int32)), .val (.int c1), .val (.int c2), .val (.int c3), .val (.ref b97), .val .null, .unset, .unset, .unset, .unset] [(.int (0 : Int32))])) _
        refine XS.ifYes X106.here hx rfl (pc0 := 140) (pc' := 171) rfl (hb hby at_140) rfl ((if0 _ _).trans (teq (by decide : (0 : Int32) = (0 : Int32))).1) (by decide) (by decide) ?_
        show Steps p.tables e below (T106.setTop (mkF m 171 #[.val (.int p0), .val (.int p1), .val (.int p2), .val (.int p3), .val (.int p4), .val (.long q5), .second, .val (.ref b1), .val (.ref b5), .val (.ref b9), .val (.int (1 : Int32)), .val (.int (0 : Int32)), .val (.int c1), .val (.int c2), .val (.int c3), .val (.ref b97), .val .null, .unset, .unset, .unset, .unset] [])) _
        refine st108 _ ?_
        show Steps p.tables e below (T108.setTop (mkF m 174 #[.val (.int p0), .val (.int p1), .val (.int p2), .val (.int p3), .val (.int p4), .val (.long q5), .second, .val (.ref b1), .val (.ref b5), .val (.ref b9), .val (.int (1 : Int32)), .val (.int (0 : Int32)), .val (.int c1), .val (.int c2), .val (.int c3), .val (.ref b97), .val .null, .unset, .unset, .unset, .unset] [(.ref b108)])) _
        refine XS.dup X108.here hx rfl (hb hby at_174) rfl rfl ?_
        show Steps p.tables e below (T108.setTop (mkF m 175 #[.val (.int p0), .val (.int p1), .val (.int p2), .val (.int p3), .val (.int p4), .val (.long q5), .second, .val (.ref b1), .val (.ref b5), .val (.ref b9), .val (.int (1 : Int32)), .val (.int (0 : Int32)), .val (.int c1), .val (.int c2), .val (.int c3), .val (.ref b97), .val .null, .unset, .unset, .unset, .unset] [(.ref b108), (.ref b108)])) _
        refine XS.iload X108.here hx rfl (hb hby at_175) rfl ?_
        show Steps p.tables e below (T108.setTop (mkF m 177 #[.val (.int p0), .val (.int p1), .val (.int p2), .val (.int p3), .val (.int p4), .val (.long q5), .second, .val (.ref b1), .val (.ref b5), .val (.ref b9), .val (.int (1 : Int32)), .val (.int (0 : Int32)), .val (.int c1), .val (.int c2), .val (.int c3), .val (.ref b97), .val .null, .unset, .unset, .unset, .unset] [(.int c3), (.ref b108), (.ref b108)])) _
        refine st111 _ ?_
        show Steps p.tables e below (T111.setTop (mkF m 180 #[.val (.int p0), .val (.int p1), .val (.int p2), .val (.int p3), .val (.int p4), .val (.long q5), .second, .val (.ref b1), .val (.ref b5), .val (.ref b9), .val (.int (1 : Int32)), .val (.int (0 : Int32)), .val (.int c1), .val (.int c2), .val (.int c3), .val (.ref b97), .val .null, .unset, .unset, .unset, .unset] [(.ref ar111), (.ref b108), (.ref b108)])) _
        refine XS.iloadN X111.here hx rfl (hb hby at_180) rfl ?_
        show Steps p.tables e below (T111.setTop (mkF m 181 #[.val (.int p0), .val (.int p1), .val (.int p2), .val (.int p3), .val (.int p4), .val (.long q5), .second, .val (.ref b1), .val (.ref b5), .val (.ref b9), .val (.int (1 : Int32)), .val (.int (0 : Int32)), .val (.int c1), .val (.int c2), .val (.int c3), .val (.ref b97), .val .null, .unset, .unset, .unset, .unset] [(.int p0), (.ref ar111), (.ref b108), (.ref b108)])) _
        refine XS.bipush X111.here hx rfl (hb hby at_181) ?_
        show Steps p.tables e below (T111.setTop (mkF m 183 #[.val (.int p0), .val (.int p1), .val (.int p2), .val (.int p3), .val (.int p4), .val (.long q5), .second, .val (.ref b1), .val (.ref b5), .val (.ref b9), .val (.int (1 : Int32)), .val (.int (0 : Int32)), .val (.int c1), .val (.int c2), .val (.int c3), .val (.ref b97), .val .null, .unset, .unset, .unset, .unset] [(.int (16 : Int32)), (.int p0), (.ref ar111), (.ref b108), (.ref b108)])) _
        refine XS.iand X111.here hx rfl (hb hby at_183) rfl ?_
        show Steps p.tables e below (T111.setTop (mkF m 184 #[.val (.int p0), .val (.int p1), .val (.int p2), .val (.int p3), .val (.int p4), .val (.long q5), .second, .val (.ref b1), .val (.ref b5), .val (.ref b9), .val (.int (1 : Int32)), .val (.int (0 : Int32)), .val (.int c1), .val (.int c2), .val (.int c3), .val (.ref b97), .val .null, .unset, .unset, .unset, .unset] [(.int (p0 &&& (16 : Int32))), (.ref ar111), (.ref b108), (.ref b108)])) _
        refine own_boolI (g := (mkF m 184 #[.val (.int p0), .val (.int p1), .val (.int p2), .val (.int p3), .val (.int p4), .val (.long q5), .second, .val (.ref b1), .val (.ref b5), .val (.ref b9), .val (.int (1 : Int32)), .val (.int (0 : Int32)), .val (.int c1), .val (.int c2), .val (.int c3), .val (.ref b97), .val .null, .unset, .unset, .unset, .unset] [(.int (p0 &&& (16 : Int32))), (.ref ar111), (.ref b108), (.ref b108)])) X111.here hx rfl (hb hby at_184) (hb hby at_187) (hb hby at_188) (hb hby at_191) rfl (by exact own_b_eq _ _) ?_
        show Steps p.tables e below (T111.setTop (mkF m 192 #[.val (.int p0), .val (.int p1), .val (.int p2), .val (.int p3), .val (.int p4), .val (.long q5), .second, .val (.ref b1), .val (.ref b5), .val (.ref b9), .val (.int (1 : Int32)), .val (.int (0 : Int32)), .val (.int c1), .val (.int c2), .val (.int c3), .val (.ref b97), .val .null, .unset, .unset, .unset, .unset] [(.int (if (p0 &&& (16 : Int32)) = (0 : Int32) then (0 : Int32) else (1 : Int32))), (.ref ar111), (.ref b108), (.ref b108)])) _
        refine XS.aload X111.here hx rfl (hb hby at_192) rfl rfl ?_
        show Steps p.tables e below (T111.setTop (mkF m 194 #[.val (.int p0), .val (.int p1), .val (.int p2), .val (.int p3), .val (.int p4), .val (.long q5), .second, .val (.ref b1), .val (.ref b5), .val (.ref b9), .val (.int (1 : Int32)), .val (.int (0 : Int32)), .val (.int c1), .val (.int c2), .val (.int c3), .val (.ref b97), .val .null, .unset, .unset, .unset, .unset] [(.ref b9), (.int (if (p0 &&& (16 : Int32)) = (0 : Int32) then (0 : Int32) else (1 : Int32))), (.ref ar111), (.ref b108), (.ref b108)])) _
        refine st117.trans ?_
        show Steps p.tables e below (T117.setTop (mkF m 197 #[.val (.int p0), .val (.int p1), .val (.int p2), .val (.int p3), .val (.int p4), .val (.long q5), .second, .val (.ref b1), .val (.ref b5), .val (.ref b9), .val (.int (1 : Int32)), .val (.int (0 : Int32)), .val (.int c1), .val (.int c2), .val (.int c3), .val (.ref b97), .val .null, .unset, .unset, .unset, .unset] [(.ref b108)])) _
        refine XS.astore X117.here hx rfl (hb hby at_197) rfl rfl (l' := #[.val (.int p0), .val (.int p1), .val (.int p2), .val (.int p3), .val (.int p4), .val (.long q5), .second, .val (.ref b1), .val (.ref b5), .val (.ref b9), .val (.int (1 : Int32)), .val (.int (0 : Int32)), .val (.int c1), .val (.int c2), .val (.int c3), .val (.ref b97), .val .null, .val (.ref b108), .unset, .unset, .unset]) rfl ?_
        show Steps p.tables e below (T117.setTop (mkF m 199 #[.val (.int p0), .val (.int p1), .val (.int p2), .val (.int p3), .val (.int p4), .val (.long q5), .second, .val (.ref b1), .val (.ref b5), .val (.ref b9), .val (.int (1 : Int32)), .val (.int (0 : Int32)), .val (.int c1), .val (.int c2), .val (.int c3), .val (.ref b97), .val .null, .val (.ref b108), .unset, .unset, .unset] [])) _
        refine st119 _ ?_
        show Steps p.tables e below (T119.setTop (mkF m 202 #[.val (.int p0), .val (.int p1), .val (.int p2), .val (.int p3), .val (.int p4), .val (.long q5), .second, .val (.ref b1), .val (.ref b5), .val (.ref b9), .val (.int (1 : Int32)), .val (.int (0 : Int32)), .val (.int c1), .val (.int c2), .val (.int c3), .val (.ref b97), .val .null, .val (.ref b108), .unset, .unset, .unset] [(.ref b119)])) _
        refine XS.dup X119.here hx rfl (hb hby at_202) rfl rfl ?_
        show Steps p.tables e below (T119.setTop (mkF m 203 #[.val (.int p0), .val (.int p1), .val (.int p2), .val (.int p3), .val (.int p4), .val (.long q5), .second, .val (.ref b1), .val (.ref b5), .val (.ref b9), .val (.int (1 : Int32)), .val (.int (0 : Int32)), .val (.int c1), .val (.int c2), .val (.int c3), .val (.ref b97), .val .null, .val (.ref b108), .unset, .unset, .unset] [(.ref b119), (.ref b119)])) _
        refine XS.aload X119.here hx rfl (hb hby at_203) rfl rfl ?_
        show Steps p.tables e below (T119.setTop (mkF m 205 #[.val (.int p0), .val (.int p1), .val (.int p2), .val (.int p3), .val (.int p4), .val (.long q5), .second, .val (.ref b1), .val (.ref b5), .val (.ref b9), .val (.int (1 : Int32)), .val (.int (0 : Int32)), .val (.int c1), .val (.int c2), .val (.int c3), .val (.ref b97), .val .null, .val (.ref b108), .unset, .unset, .unset] [(.ref b97), (.ref b119), (.ref b119)])) _
        refine XS.aload X119.here hx rfl (hb hby at_205) rfl rfl ?_
        show Steps p.tables e below (T119.setTop (mkF m 207 #[.val (.int p0), .val (.int p1), .val (.int p2), .val (.int p3), .val (.int p4), .val (.long q5), .second, .val (.ref b1), .val (.ref b5), .val (.ref b9), .val (.int (1 : Int32)), .val (.int (0 : Int32)), .val (.int c1), .val (.int c2), .val (.int c3), .val (.ref b97), .val .null, .val (.ref b108), .unset, .unset, .unset] [.null, (.ref b97), (.ref b119), (.ref b119)])) _
        refine XS.aload X119.here hx rfl (hb hby at_207) rfl rfl ?_
        show Steps p.tables e below (T119.setTop (mkF m 209 #[.val (.int p0), .val (.int p1), .val (.int p2), .val (.int p3), .val (.int p4), .val (.long q5), .second, .val (.ref b1), .val (.ref b5), .val (.ref b9), .val (.int (1 : Int32)), .val (.int (0 : Int32)), .val (.int c1), .val (.int c2), .val (.int c3), .val (.ref b97), .val .null, .val (.ref b108), .unset, .unset, .unset] [(.ref b108), .null, (.ref b97), (.ref b119), (.ref b119)])) _
        refine st121.trans ?_
        show Steps p.tables e below (T121.setTop (mkF m 212 #[.val (.int p0), .val (.int p1), .val (.int p2), .val (.int p3), .val (.int p4), .val (.long q5), .second, .val (.ref b1), .val (.ref b5), .val (.ref b9), .val (.int (1 : Int32)), .val (.int (0 : Int32)), .val (.int c1), .val (.int c2), .val (.int c3), .val (.ref b97), .val .null, .val (.ref b108), .unset, .unset, .unset] [(.ref b119)])) _
        refine XS.astore X121.here hx rfl (hb hby at_212) rfl rfl (l' := #[.val (.int p0), .val (.int p1), .val (.int p2), .val (.int p3), .val (.int p4), .val (.long q5), .second, .val (.ref b1), .val (.ref b5), .val (.ref b9), .val (.int (1 : Int32)), .val (.int (0 : Int32)), .val (.int c1), .val (.int c2), .val (.int c3), .val (.ref b97), .val .null, .val (.ref b108), .val (.ref b119), .unset, .unset]) rfl ?_
        show Steps p.tables e below (T121.setTop (mkF m 214 #[.val (.int p0), .val (.int p1), .val (.int p2), .val (.int p3), .val (.int p4), .val (.long q5), .second, .val (.ref b1), .val (.ref b5), .val (.ref b9), .val (.int (1 : Int32)), .val (.int (0 : Int32)), .val (.int c1), .val (.int c2), .val (.int c3), .val (.ref b97), .val .null, .val (.ref b108), .val (.ref b119), .unset, .unset] [])) _
        refine XS.aload X121.here hx rfl (hb hby at_214) rfl rfl ?_
        show Steps p.tables e below (T121.setTop (mkF m 216 #[.val (.int p0), .val (.int p1), .val (.int p2), .val (.int p3), .val (.int p4), .val (.long q5), .second, .val (.ref b1), .val (.ref b5), .val (.ref b9), .val (.int (1 : Int32)), .val (.int (0 : Int32)), .val (.int c1), .val (.int c2), .val (.int c3), .val (.ref b97), .val .null, .val (.ref b108), .val (.ref b119), .unset, .unset] [(.ref b119)])) _
        refine st127.trans ?_
        show Steps p.tables e below (T127.setTop (mkF m 219 #[.val (.int p0), .val (.int p1), .val (.int p2), .val (.int p3), .val (.int p4), .val (.long q5), .second, .val (.ref b1), .val (.ref b5), .val (.ref b9), .val (.int (1 : Int32)), .val (.int (0 : Int32)), .val (.int c1), .val (.int c2), .val (.int c3), .val (.ref b97), .val .null, .val (.ref b108), .val (.ref b119), .unset, .unset] [(.ref b1)])) _
        refine XS.astore X127.here hx rfl (hb hby at_219) rfl rfl (l' := #[.val (.int p0), .val (.int p1), .val (.int p2), .val (.int p3), .val (.int p4), .val (.long q5), .second, .val (.ref b1), .val (.ref b5), .val (.ref b9), .val (.int (1 : Int32)), .val (.int (0 : Int32)), .val (.int c1), .val (.int c2), .val (.int c3), .val (.ref b97), .val .null, .val (.ref b108), .val (.ref b119), .val (.ref b1), .unset]) rfl ?_
        show Steps p.tables e below (T127.setTop (mkF m 221 #[.val (.int p0), .val (.int p1), .val (.int p2), .val (.int p3), .val (.int p4), .val (.long q5), .second, .val (.ref b1), .val (.ref b5), .val (.ref b9), .val (.int (1 : Int32)), .val (.int (0 : Int32)), .val (.int c1), .val (.int c2), .val (.int c3), .val (.ref b97), .val .null, .val (.ref b108), .val (.ref b119), .val (.ref b1), .unset] [])) _
        refine XS.iload X127.here hx rfl (hb hby at_221) rfl ?_
        show Steps p.tables e below (T127.setTop (mkF m 223 #[.val (.int p0), .val (.int p1), .val (.int p2), .val (.int p3), .val (.int p4), .val (.long q5), .second, .val (.ref b1), .val (.ref b5), .val (.ref b9), .val (.int (1 : Int32)), .val (.int (0 : Int32)), .val (.int c1), .val (.int c2), .val (.int c3), .val (.ref b97), .val .null, .val (.ref b108), .val (.ref b119), .val (.ref b1), .unset] [(.int (1 : Int32))])) _
        refine XS.ifNo X127.here hx rfl (hb hby at_223) rfl ((if0 _ _).trans (feq (by decide : ¬ ((1 : Int32) = (0 : Int32)))).1) ?_
        show Steps p.tables e below (T127.setTop (mkF m 226 #[.val (.int p0), .val (.int p1), .val (.int p2), .val (.int p3), .val (.int p4), .val (.long q5), .second, .val (.ref b1), .val (.ref b5), .val (.ref b9), .val (.int (1 : Int32)), .val (.int (0 : Int32)), .val (.int c1), .val (.int c2), .val (.int c3), .val (.ref b97), .val .null, .val (.ref b108), .val (.ref b119), .val (.ref b1), .unset] [])) _
        refine XS.aload X127.here hx rfl (hb hby at_226) rfl rfl ?_
        show Steps p.tables e below (T127.setTop (mkF m 228 #[.val (.int p0), .val (.int p1), .val (.int p2), .val (.int p3), .val (.int p4), .val (.long q5), .second, .val (.ref b1), .val (.ref b5), .val (.ref b9), .val (.int (1 : Int32)), .val (.int (0 : Int32)), .val (.int c1), .val (.int c2), .val (.int c3), .val (.ref b97), .val .null, .val (.ref b108), .val (.ref b119), .val (.ref b1), .unset] [(.ref b1)])) _
        refine XS.astore X127.here hx rfl (hb hby at_228) rfl rfl (l' := #[.val (.int p0), .val (.int p1), .val (.int p2), .val (.int p3), .val (.int p4), .val (.long q5), .second, .val (.ref b1), .val (.ref b5), .val (.ref b9), .val (.int (1 : Int32)), .val (.int (0 : Int32)), .val (.int c1), .val (.int c2), .val (.int c3), .val (.ref b97), .val .null, .val (.ref b108), .val (.ref b119), .val (.ref b1), .val (.ref b1)]) rfl ?_
        show Steps p.tables e below (T127.setTop (mkF m 230 #[.val (.int p0), .val (.int p1), .val (.int p2), .val (.int p3), .val (.int p4), .val (.long q5), .second, .val (.ref b1), .val (.ref b5), .val (.ref b9), .val (.int (1 : Int32)), .val (.int (0 : Int32)), .val (.int c1), .val (.int c2), .val (.int c3), .val (.ref b97), .val .null, .val (.ref b108), .val (.ref b119), .val (.ref b1), .val (.ref b1)] [])) _
        refine XS.goto X127.here hx rfl (pc0 := 230) (pc' := 249) rfl (hb hby at_230) (by decide) (by decide) ?_
        show Steps p.tables e below (T127.setTop (mkF m 249 #[.val (.int p0), .val (.int p1), .val (.int p2), .val (.int p3), .val (.int p4), .val (.long q5), .second, .val (.ref b1), .val (.ref b5), .val (.ref b9), .val (.int (1 : Int32)), .val (.int (0 : Int32)), .val (.int c1), .val (.int c2), .val (.int c3), .val (.ref b97), .val .null, .val (.ref b108), .val (.ref b119), .val (.ref b1), .val (.ref b1)] [])) _
        refine XS.aload X127.here hx rfl (hb hby at_249) rfl rfl ?_
        show Steps p.tables e below (T127.setTop (mkF m 251 #[.val (.int p0), .val (.int p1), .val (.int p2), .val (.int p3), .val (.int p4), .val (.long q5), .second, .val (.ref b1), .val (.ref b5), .val (.ref b9), .val (.int (1 : Int32)), .val (.int (0 : Int32)), .val (.int c1), .val (.int c2), .val (.int c3), .val (.ref b97), .val .null, .val (.ref b108), .val (.ref b119), .val (.ref b1), .val (.ref b1)] [(.ref b1)])) _
        refine XS.aload X127.here hx rfl (hb hby at_251) rfl rfl ?_
        show Steps p.tables e below (T127.setTop (mkF m 253 #[.val (.int p0), .val (.int p1), .val (.int p2), .val (.int p3), .val (.int p4), .val (.long q5), .second, .val (.ref b1), .val (.ref b5), .val (.ref b9), .val (.int (1 : Int32)), .val (.int (0 : Int32)), .val (.int c1), .val (.int c2), .val (.int c3), .val (.ref b97), .val .null, .val (.ref b108), .val (.ref b119), .val (.ref b1), .val (.ref b1)] [(.ref b1), (.ref b1)])) _
        refine Jvm.RoadKit.acmp (g := (mkF m 253 #[.val (.int p0), .val (.int p1), .val (.int p2), .val (.int p3), .val (.int p4), .val (.long q5), .second, .val (.ref b1), .val (.ref b5), .val (.ref b9), .val (.int (1 : Int32)), .val (.int (0 : Int32)), .val (.int c1), .val (.int c2), .val (.int c3), .val (.ref b97), .val .null, .val (.ref b108), .val (.ref b119), .val (.ref b1), .val (.ref b1)] [(.ref b1), (.ref b1)])) X127 hx rfl rfl rfl (pc0 := 253) (pc' := 256) (same := true) rfl (hb hby at_253) rfl (decide_eq_true rfl) (by decide) (by decide) ?_
        show Steps p.tables e below (T127.setTop (mkF m 256 #[.val (.int p0), .val (.int p1), .val (.int p2), .val (.int p3), .val (.int p4), .val (.long q5), .second, .val (.ref b1), .val (.ref b5), .val (.ref b9), .val (.int (1 : Int32)), .val (.int (0 : Int32)), .val (.int c1), .val (.int c2), .val (.int c3), .val (.ref b97), .val .null, .val (.ref b108), .val (.ref b119), .val (.ref b1), .val (.ref b1)] [])) _
        refine XS.iconst X127.here hx rfl (hb hby at_256) ?_
        show Steps p.tables e below (T127.setTop (mkF m 257 #[.val (.int p0), .val (.int p1), .val (.int p2), .val (.int p3), .val (.int p4), .val (.long q5), .second, .val (.ref b1), .val (.ref b5), .val (.ref b9), .val (.int (1 : Int32)), .val (.int (0 : Int32)), .val (.int c1), .val (.int c2), .val (.int c3), .val (.ref b97), .val .null, .val (.ref b108), .val (.ref b119), .val (.ref b1), .val (.ref b1)] [(.int (1 : Int32))])) _
        refine XS.goto X127.here hx rfl (pc0 := 257) (pc' := 261) rfl (hb hby at_257) (by decide) (by decide) ?_
        exact k
      obtain ⟨fs, hrq, hrun, hended, hW, hsame⟩ := X127.leave (v := some (.int (1 : Int32))) (fun h => by rw [Bd.returns] at h; cases h)
      refine ⟨_, _, pre128 _ ?_, hrun, hended, _, _, rfl, ?_, ⟨_, rfl⟩, hW, hsame.mono (by decide) (by decide)⟩
      · show Steps p.tables e below (T127.setTop (mkF m 261 #[.val (.int p0), .val (.int p1), .val (.int p2), .val (.int p3), .val (.int p4), .val (.long q5), .second, .val (.ref b1), .val (.ref b5), .val (.ref b9), .val (.int (1 : Int32)), .val (.int (0 : Int32)), .val (.int c1), .val (.int c2), .val (.int c3), .val (.ref b97), .val .null, .val (.ref b108), .val (.ref b119), .val (.ref b1), .val (.ref b1)] [(.int (1 : Int32))])) _
        exact retN X127 hx (t := .boolean) Bd.returns (by simp) (hb hby at_261) hrq
      · show Q0 Z p0 p1 p2 p3 p4 q5 cs h0 n0 _ T127.heap _
        rw [e127]
        exact ⟨rfl, N127⟩
    · have pre129 : ∀ t, Steps p.tables e below (T11.setTop (mkF m 67 #[.val (.int p0), .val (.int p1), .val (.int p2), .val (.int p3), .val (.int p4), .val (.long q5), .second, .val (.ref b1), .val (.ref b5), .val (.ref b9), .val (.int (1 : Int32)), .val (.int (1 : Int32)), .unset, .unset, .unset, .unset, .unset, .unset, .unset, .unset, .unset] [])) t → Steps p.tables e below (s₁.setTop (entryFrame m #[(.int p0), (.int p1), (.int p2), (.int p3), (.int p4), (.long q5)] maxLocals)) t := fun t k => by
        refine pre86 t ?_
        show Steps p.tables e below (T11.setTop (mkF m 57 #[.val (.int p0), .val (.int p1), .val (.int p2), .val (.int p3), .val (.int p4), .val (.long q5), .second, .val (.ref b1), .val (.ref b5), .val (.ref b9), .val (.int (1 : Int32)), .unset, .unset, .unset, .unset, .unset, .unset, .unset, .unset, .unset, .unset] [(.int (p0 &&& (2 : Int32)))])) _
        refine XS.ifNo X11.here hx rfl (hb hby at_57) rfl ((if0 _ _).trans (feq hc57_87).1) ?_
        show Steps p.tables e below (T11.setTop (mkF m 60 #[.val (.int p0), .val (.int p1), .val (.int p2), .val (.int p3), .val (.int p4), .val (.long q5), .second, .val (.ref b1), .val (.ref b5), .val (.ref b9), .val (.int (1 : Int32)), .unset, .unset, .unset, .unset, .unset, .unset, .unset, .unset, .unset, .unset] [])) _
        refine XS.iconst X11.here hx rfl (hb hby at_60) ?_
        show Steps p.tables e below (T11.setTop (mkF m 61 #[.val (.int p0), .val (.int p1), .val (.int p2), .val (.int p3), .val (.int p4), .val (.long q5), .second, .val (.ref b1), .val (.ref b5), .val (.ref b9), .val (.int (1 : Int32)), .unset, .unset, .unset, .unset, .unset, .unset, .unset, .unset, .unset, .unset] [(.int (1 : Int32))])) _
        refine XS.goto X11.here hx rfl (pc0 := 61) (pc' := 65) rfl (hb hby at_61) (by decide) (by decide) ?_
        show Steps p.tables e below (T11.setTop (mkF m 65 #[.val (.int p0), .val (.int p1), .val (.int p2), .val (.int p3), .val (.int p4), .val (.long q5), .second, .val (.ref b1), .val (.ref b5), .val (.ref b9), .val (.int (1 : Int32)), .unset, .unset, .unset, .unset, .unset, .unset, .unset, .unset, .unset, .unset] [(.int (1 : Int32))])) _
        refine XS.istore X11.here hx rfl (hb hby at_65) rfl (l' := #[.val (.int p0), .val (.int p1), .val (.int p2), .val (.int p3), .val (.int p4), .val (.long q5), .second, .val (.ref b1), .val (.ref b5), .val (.ref b9), .val (.int (1 : Int32)), .val (.int (1 : Int32)), .unset, .unset, .unset, .unset, .unset, .unset, .unset, .unset, .unset]) rfl ?_
        exact k
      obtain ⟨T130, c1, Lx130, X130, e130, N130, hc1, pre130⟩ : ∃ (T130 : State) (c1 : Int32) (Lx130 : List Loc), Stand p l e room_1 s0 m #[(.int p0), (.int p1), (.int p2), (.int p3), (.int p4), (.long q5)] below meth c T130 Lx130 3 9 ∧ T130.heap = T11.heap ∧ Fr n0 Lx130 ∧ (¬ ((255 : Int32) < c1)) ∧ (∀ t, Steps p.tables e below (T130.setTop (mkF m 76 #[.val (.int p0), .val (.int p1), .val (.int p2), .val (.int p3), .val (.int p4), .val (.long q5), .second, .val (.ref b1), .val (.ref b5), .val (.ref b9), .val (.int (1 : Int32)), .val (.int (1 : Int32)), .unset, .unset, .unset, .unset, .unset, .unset, .unset, .unset, .unset] [(.int c1)])) t → Steps p.tables e below (s₁.setTop (entryFrame m #[(.int p0), (.int p1), (.int p2), (.int p3), (.int p4), (.long q5)] maxLocals)) t) := by
        have pre131 : ∀ t, Steps p.tables e below (T11.setTop (mkF m 76 #[.val (.int p0), .val (.int p1), .val (.int p2), .val (.int p3), .val (.int p4), .val (.long q5), .second, .val (.ref b1), .val (.ref b5), .val (.ref b9), .val (.int (1 : Int32)), .val (.int (1 : Int32)), .unset, .unset, .unset, .unset, .unset, .unset, .unset, .unset, .unset] [(.int ((((p0.toUInt32 >>> ((8 : Int32) &&& 31).toUInt32).toInt32) &&& (255 : Int32)).toUInt32.toUInt16.toUInt32.toInt32))])) t → Steps p.tables e below (s₁.setTop (entryFrame m #[(.int p0), (.int p1), (.int p2), (.int p3), (.int p4), (.long q5)] maxLocals)) t := fun t k => by
          refine pre129 t ?_
          show Steps p.tables e below (T11.setTop (mkF m 67 #[.val (.int p0), .val (.int p1), .val (.int p2), .val (.int p3), .val (.int p4), .val (.long q5), .second, .val (.ref b1), .val (.ref b5), .val (.ref b9), .val (.int (1 : Int32)), .val (.int (1 : Int32)), .unset, .unset, .unset, .unset, .unset, .unset, .unset, .unset, .unset] [])) _
          refine XS.iloadN X11.here hx rfl (hb hby at_67) rfl ?_
          show Steps p.tables e below (T11.setTop (mkF m 68 #[.val (.int p0), .val (.int p1), .val (.int p2), .val (.int p3), .val (.int p4), .val (.long q5), .second, .val (.ref b1), .val (.ref b5), .val (.ref b9), .val (.int (1 : Int32)), .val (.int (1 : Int32)), .unset, .unset, .unset, .unset, .unset, .unset, .unset, .unset, .unset] [(.int p0)])) _
          refine XS.bipush X11.here hx rfl (hb hby at_68) ?_
          show Steps p.tables e below (T11.setTop (mkF m 70 #[.val (.int p0), .val (.int p1), .val (.int p2), .val (.int p3), .val (.int p4), .val (.long q5), .second, .val (.ref b1), .val (.ref b5), .val (.ref b9), .val (.int (1 : Int32)), .val (.int (1 : Int32)), .unset, .unset, .unset, .unset, .unset, .unset, .unset, .unset, .unset] [(.int (8 : Int32)), (.int p0)])) _
          refine XS.iushr X11.here hx rfl (hb hby at_70) rfl ?_
          show Steps p.tables e below (T11.setTop (mkF m 71 #[.val (.int p0), .val (.int p1), .val (.int p2), .val (.int p3), .val (.int p4), .val (.long q5), .second, .val (.ref b1), .val (.ref b5), .val (.ref b9), .val (.int (1 : Int32)), .val (.int (1 : Int32)), .unset, .unset, .unset, .unset, .unset, .unset, .unset, .unset, .unset] [(.int ((p0.toUInt32 >>> ((8 : Int32) &&& 31).toUInt32).toInt32))])) _
          refine XS.sipush X11.here hx rfl (hb hby at_71) ?_
          show Steps p.tables e below (T11.setTop (mkF m 74 #[.val (.int p0), .val (.int p1), .val (.int p2), .val (.int p3), .val (.int p4), .val (.long q5), .second, .val (.ref b1), .val (.ref b5), .val (.ref b9), .val (.int (1 : Int32)), .val (.int (1 : Int32)), .unset, .unset, .unset, .unset, .unset, .unset, .unset, .unset, .unset] [(.int (255 : Int32)), (.int ((p0.toUInt32 >>> ((8 : Int32) &&& 31).toUInt32).toInt32))])) _
          refine XS.iand X11.here hx rfl (hb hby at_74) rfl ?_
          show Steps p.tables e below (T11.setTop (mkF m 75 #[.val (.int p0), .val (.int p1), .val (.int p2), .val (.int p3), .val (.int p4), .val (.long q5), .second, .val (.ref b1), .val (.ref b5), .val (.ref b9), .val (.int (1 : Int32)), .val (.int (1 : Int32)), .unset, .unset, .unset, .unset, .unset, .unset, .unset, .unset, .unset] [(.int (((p0.toUInt32 >>> ((8 : Int32) &&& 31).toUInt32).toInt32) &&& (255 : Int32)))])) _
          refine XS.i2c X11.here hx rfl (hb hby at_75) rfl ?_
          exact k
        exact ⟨T11, ((((p0.toUInt32 >>> ((8 : Int32) &&& 31).toUInt32).toInt32) &&& (255 : Int32)).toUInt32.toUInt16.toUInt32.toInt32), _, X11, rfl, N11, (own_c255 _), pre131⟩
      have pre132 : ∀ t, Steps p.tables e below (T130.setTop (mkF m 78 #[.val (.int p0), .val (.int p1), .val (.int p2), .val (.int p3), .val (.int p4), .val (.long q5), .second, .val (.ref b1), .val (.ref b5), .val (.ref b9), .val (.int (1 : Int32)), .val (.int (1 : Int32)), .val (.int c1), .unset, .unset, .unset, .unset, .unset, .unset, .unset, .unset] [])) t → Steps p.tables e below (s₁.setTop (entryFrame m #[(.int p0), (.int p1), (.int p2), (.int p3), (.int p4), (.long q5)] maxLocals)) t := fun t k => by
        refine pre130 t ?_
        show Steps p.tables e below (T130.setTop (mkF m 76 #[.val (.int p0), .val (.int p1), .val (.int p2), .val (.int p3), .val (.int p4), .val (.long q5), .second, .val (.ref b1), .val (.ref b5), .val (.ref b9), .val (.int (1 : Int32)), .val (.int (1 : Int32)), .unset, .unset, .unset, .unset, .unset, .unset, .unset, .unset, .unset] [(.int c1)])) _
        refine XS.istore X130.here hx rfl (hb hby at_76) rfl (l' := #[.val (.int p0), .val (.int p1), .val (.int p2), .val (.int p3), .val (.int p4), .val (.long q5), .second, .val (.ref b1), .val (.ref b5), .val (.ref b9), .val (.int (1 : Int32)), .val (.int (1 : Int32)), .val (.int c1), .unset, .unset, .unset, .unset, .unset, .unset, .unset, .unset]) rfl ?_
        exact k
      obtain ⟨T133, c2, Lx133, X133, e133, N133, hc2, pre133⟩ : ∃ (T133 : State) (c2 : Int32) (Lx133 : List Loc), Stand p l e room_1 s0 m #[(.int p0), (.int p1), (.int p2), (.int p3), (.int p4), (.long q5)] below meth c T133 Lx133 3 9 ∧ T133.heap = T11.heap ∧ Fr n0 Lx133 ∧ (¬ ((255 : Int32) < c2)) ∧ (∀ t, Steps p.tables e below (T133.setTop (mkF m 87 #[.val (.int p0), .val (.int p1), .val (.int p2), .val (.int p3), .val (.int p4), .val (.long q5), .second, .val (.ref b1), .val (.ref b5), .val (.ref b9), .val (.int (1 : Int32)), .val (.int (1 : Int32)), .val (.int c1), .unset, .unset, .unset, .unset, .unset, .unset, .unset, .unset] [(.int c2)])) t → Steps p.tables e below (s₁.setTop (entryFrame m #[(.int p0), (.int p1), (.int p2), (.int p3), (.int p4), (.long q5)] maxLocals)) t) := by
        have pre134 : ∀ t, Steps p.tables e below (T130.setTop (mkF m 87 #[.val (.int p0), .val (.int p1), .val (.int p2), .val (.int p3), .val (.int p4), .val (.long q5), .second, .val (.ref b1), .val (.ref b5), .val (.ref b9), .val (.int (1 : Int32)), .val (.int (1 : Int32)), .val (.int c1), .unset, .unset, .unset, .unset, .unset, .unset, .unset, .unset] [(.int ((((p0.toUInt32 >>> ((16 : Int32) &&& 31).toUInt32).toInt32) &&& (255 : Int32)).toUInt32.toUInt16.toUInt32.toInt32))])) t → Steps p.tables e below (s₁.setTop (entryFrame m #[(.int p0), (.int p1), (.int p2), (.int p3), (.int p4), (.long q5)] maxLocals)) t := fun t k => by
          refine pre132 t ?_
          show Steps p.tables e below (T130.setTop (mkF m 78 #[.val (.int p0), .val (.int p1), .val (.int p2), .val (.int p3), .val (.int p4), .val (.long q5), .second, .val (.ref b1), .val (.ref b5), .val (.ref b9), .val (.int (1 : Int32)), .val (.int (1 : Int32)), .val (.int c1), .unset, .unset, .unset, .unset, .unset, .unset, .unset, .unset] [])) _
          refine XS.iloadN X130.here hx rfl (hb hby at_78) rfl ?_
          show Steps p.tables e below (T130.setTop (mkF m 79 #[.val (.int p0), .val (.int p1), .val (.int p2), .val (.int p3), .val (.int p4), .val (.long q5), .second, .val (.ref b1), .val (.ref b5), .val (.ref b9), .val (.int (1 : Int32)), .val (.int (1 : Int32)), .val (.int c1), .unset, .unset, .unset, .unset, .unset, .unset, .unset, .unset] [(.int p0)])) _
          refine XS.bipush X130.here hx rfl (hb hby at_79) ?_
          show Steps p.tables e below (T130.setTop (mkF m 81 #[.val (.int p0), .val (.int p1), .val (.int p2), .val (.int p3), .val (.int p4), .val (.long q5), .second, .val (.ref b1), .val (.ref b5), .val (.ref b9), .val (.int (1 : Int32)), .val (.int (1 : Int32)), .val (.int c1), .unset, .unset, .unset, .unset, .unset, .unset, .unset, .unset] [(.int (16 : Int32)), (.int p0)])) _
          refine XS.iushr X130.here hx rfl (hb hby at_81) rfl ?_
          show Steps p.tables e below (T130.setTop (mkF m 82 #[.val (.int p0), .val (.int p1), .val (.int p2), .val (.int p3), .val (.int p4), .val (.long q5), .second, .val (.ref b1), .val (.ref b5), .val (.ref b9), .val (.int (1 : Int32)), .val (.int (1 : Int32)), .val (.int c1), .unset, .unset, .unset, .unset, .unset, .unset, .unset, .unset] [(.int ((p0.toUInt32 >>> ((16 : Int32) &&& 31).toUInt32).toInt32))])) _
          refine XS.sipush X130.here hx rfl (hb hby at_82) ?_
          show Steps p.tables e below (T130.setTop (mkF m 85 #[.val (.int p0), .val (.int p1), .val (.int p2), .val (.int p3), .val (.int p4), .val (.long q5), .second, .val (.ref b1), .val (.ref b5), .val (.ref b9), .val (.int (1 : Int32)), .val (.int (1 : Int32)), .val (.int c1), .unset, .unset, .unset, .unset, .unset, .unset, .unset, .unset] [(.int (255 : Int32)), (.int ((p0.toUInt32 >>> ((16 : Int32) &&& 31).toUInt32).toInt32))])) _
          refine XS.iand X130.here hx rfl (hb hby at_85) rfl ?_
          show Steps p.tables e below (T130.setTop (mkF m 86 #[.val (.int p0), .val (.int p1), .val (.int p2), .val (.int p3), .val (.int p4), .val (.long q5), .second, .val (.ref b1), .val (.ref b5), .val (.ref b9), .val (.int (1 : Int32)), .val (.int (1 : Int32)), .val (.int c1), .unset, .unset, .unset, .unset, .unset, .unset, .unset, .unset] [(.int (((p0.toUInt32 >>> ((16 : Int32) &&& 31).toUInt32).toInt32) &&& (255 : Int32)))])) _
          refine XS.i2c X130.here hx rfl (hb hby at_86) rfl ?_
          exact k
        exact ⟨T130, ((((p0.toUInt32 >>> ((16 : Int32) &&& 31).toUInt32).toInt32) &&& (255 : Int32)).toUInt32.toUInt16.toUInt32.toInt32), _, X130, e130, N130, (own_c255 _), pre134⟩
      have pre135 : ∀ t, Steps p.tables e below (T133.setTop (mkF m 89 #[.val (.int p0), .val (.int p1), .val (.int p2), .val (.int p3), .val (.int p4), .val (.long q5), .second, .val (.ref b1), .val (.ref b5), .val (.ref b9), .val (.int (1 : Int32)), .val (.int (1 : Int32)), .val (.int c1), .val (.int c2), .unset, .unset, .unset, .unset, .unset, .unset, .unset] [])) t → Steps p.tables e below (s₁.setTop (entryFrame m #[(.int p0), (.int p1), (.int p2), (.int p3), (.int p4), (.long q5)] maxLocals)) t := fun t k => by
        refine pre133 t ?_
        show Steps p.tables e below (T133.setTop (mkF m 87 #[.val (.int p0), .val (.int p1), .val (.int p2), .val (.int p3), .val (.int p4), .val (.long q5), .second, .val (.ref b1), .val (.ref b5), .val (.ref b9), .val (.int (1 : Int32)), .val (.int (1 : Int32)), .val (.int c1), .unset, .unset, .unset, .unset, .unset, .unset, .unset, .unset] [(.int c2)])) _
        refine XS.istore X133.here hx rfl (hb hby at_87) rfl (l' := #[.val (.int p0), .val (.int p1), .val (.int p2), .val (.int p3), .val (.int p4), .val (.long q5), .second, .val (.ref b1), .val (.ref b5), .val (.ref b9), .val (.int (1 : Int32)), .val (.int (1 : Int32)), .val (.int c1), .val (.int c2), .unset, .unset, .unset, .unset, .unset, .unset, .unset]) rfl ?_
        exact k
      obtain ⟨T136, c3, Lx136, X136, e136, N136, hc3, pre136⟩ : ∃ (T136 : State) (c3 : Int32) (Lx136 : List Loc), Stand p l e room_1 s0 m #[(.int p0), (.int p1), (.int p2), (.int p3), (.int p4), (.long q5)] below meth c T136 Lx136 3 9 ∧ T136.heap = T11.heap ∧ Fr n0 Lx136 ∧ (¬ ((255 : Int32) < c3)) ∧ (∀ t, Steps p.tables e below (T136.setTop (mkF m 98 #[.val (.int p0), .val (.int p1), .val (.int p2), .val (.int p3), .val (.int p4), .val (.long q5), .second, .val (.ref b1), .val (.ref b5), .val (.ref b9), .val (.int (1 : Int32)), .val (.int (1 : Int32)), .val (.int c1), .val (.int c2), .unset, .unset, .unset, .unset, .unset, .unset, .unset] [(.int c3)])) t → Steps p.tables e below (s₁.setTop (entryFrame m #[(.int p0), (.int p1), (.int p2), (.int p3), (.int p4), (.long q5)] maxLocals)) t) := by
        have pre137 : ∀ t, Steps p.tables e below (T133.setTop (mkF m 98 #[.val (.int p0), .val (.int p1), .val (.int p2), .val (.int p3), .val (.int p4), .val (.long q5), .second, .val (.ref b1), .val (.ref b5), .val (.ref b9), .val (.int (1 : Int32)), .val (.int (1 : Int32)), .val (.int c1), .val (.int c2), .unset, .unset, .unset, .unset, .unset, .unset, .unset] [(.int ((((p0.toUInt32 >>> ((24 : Int32) &&& 31).toUInt32).toInt32) &&& (255 : Int32)).toUInt32.toUInt16.toUInt32.toInt32))])) t → Steps p.tables e below (s₁.setTop (entryFrame m #[(.int p0), (.int p1), (.int p2), (.int p3), (.int p4), (.long q5)] maxLocals)) t := fun t k => by
          refine pre135 t ?_
          show Steps p.tables e below (T133.setTop (mkF m 89 #[.val (.int p0), .val (.int p1), .val (.int p2), .val (.int p3), .val (.int p4), .val (.long q5), .second, .val (.ref b1), .val (.ref b5), .val (.ref b9), .val (.int (1 : Int32)), .val (.int (1 : Int32)), .val (.int c1), .val (.int c2), .unset, .unset, .unset, .unset, .unset, .unset, .unset] [])) _
          refine XS.iloadN X133.here hx rfl (hb hby at_89) rfl ?_
          show Steps p.tables e below (T133.setTop (mkF m 90 #[.val (.int p0), .val (.int p1), .val (.int p2), .val (.int p3), .val (.int p4), .val (.long q5), .second, .val (.ref b1), .val (.ref b5), .val (.ref b9), .val (.int (1 : Int32)), .val (.int (1 : Int32)), .val (.int c1), .val (.int c2), .unset, .unset, .unset, .unset, .unset, .unset, .unset] [(.int p0)])) _
          refine XS.bipush X133.here hx rfl (hb hby at_90) ?_
          show Steps p.tables e below (T133.setTop (mkF m 92 #[.val (.int p0), .val (.int p1), .val (.int p2), .val (.int p3), .val (.int p4), .val (.long q5), .second, .val (.ref b1), .val (.ref b5), .val (.ref b9), .val (.int (1 : Int32)), .val (.int (1 : Int32)), .val (.int c1), .val (.int c2), .unset, .unset, .unset, .unset, .unset, .unset, .unset] [(.int (24 : Int32)), (.int p0)])) _
          refine XS.iushr X133.here hx rfl (hb hby at_92) rfl ?_
          show Steps p.tables e below (T133.setTop (mkF m 93 #[.val (.int p0), .val (.int p1), .val (.int p2), .val (.int p3), .val (.int p4), .val (.long q5), .second, .val (.ref b1), .val (.ref b5), .val (.ref b9), .val (.int (1 : Int32)), .val (.int (1 : Int32)), .val (.int c1), .val (.int c2), .unset, .unset, .unset, .unset, .unset, .unset, .unset] [(.int ((p0.toUInt32 >>> ((24 : Int32) &&& 31).toUInt32).toInt32))])) _
          refine XS.sipush X133.here hx rfl (hb hby at_93) ?_
          show Steps p.tables e below (T133.setTop (mkF m 96 #[.val (.int p0), .val (.int p1), .val (.int p2), .val (.int p3), .val (.int p4), .val (.long q5), .second, .val (.ref b1), .val (.ref b5), .val (.ref b9), .val (.int (1 : Int32)), .val (.int (1 : Int32)), .val (.int c1), .val (.int c2), .unset, .unset, .unset, .unset, .unset, .unset, .unset] [(.int (255 : Int32)), (.int ((p0.toUInt32 >>> ((24 : Int32) &&& 31).toUInt32).toInt32))])) _
          refine XS.iand X133.here hx rfl (hb hby at_96) rfl ?_
          show Steps p.tables e below (T133.setTop (mkF m 97 #[.val (.int p0), .val (.int p1), .val (.int p2), .val (.int p3), .val (.int p4), .val (.long q5), .second, .val (.ref b1), .val (.ref b5), .val (.ref b9), .val (.int (1 : Int32)), .val (.int (1 : Int32)), .val (.int c1), .val (.int c2), .unset, .unset, .unset, .unset, .unset, .unset, .unset] [(.int (((p0.toUInt32 >>> ((24 : Int32) &&& 31).toUInt32).toInt32) &&& (255 : Int32)))])) _
          refine XS.i2c X133.here hx rfl (hb hby at_97) rfl ?_
          exact k
        exact ⟨T133, ((((p0.toUInt32 >>> ((24 : Int32) &&& 31).toUInt32).toInt32) &&& (255 : Int32)).toUInt32.toUInt16.toUInt32.toInt32), _, X133, e133, N133, (own_c255 _), pre137⟩
      obtain ⟨T138, h138, X138, e138, E138, A138, D138, -, st138⟩ := newO X136 hx hZ hown (hw _ (List.mem_of_getElem? (i := 18) rfl)) (hw _ (List.mem_of_getElem? (i := 19) rfl)) (hw _ (List.mem_of_getElem? (i := 20) rfl)) e136 (g := (mkF m 108 #[.val (.int p0), .val (.int p1), .val (.int p2), .val (.int p3), .val (.int p4), .val (.long q5), .second, .val (.ref b1), .val (.ref b5), .val (.ref b9), .val (.int (1 : Int32)), .val (.int (1 : Int32)), .val (.int c1), .val (.int c2), .val (.int c3), .val .null, .unset, .unset, .unset, .unset, .unset] [])) rfl (hb hby at_108) (by decide) (by decide)
      obtain ⟨b138, g138⟩ : ∃ z, z = T11.heap.size := ⟨_, rfl⟩
      rw [← g138] at A138 D138 st138
      have g_b138 : n0 ≤ b138 := Nat.le_trans Z12 (Nat.le_of_eq g138.symm)
      have Z139 : n0 ≤ h138.size := Nat.le_trans Z12 E138.1
      have F_text_b138 : Fld Z h138 b138 "com/example/semijoin/semijoin/query/Identifier" "text" "Ljava/lang/String;" .null := D138 (Or.inr (hw _ (List.mem_of_getElem? (i := 50) rfl))) (ty := (.object "java/lang/String")) (by decide)
      have F_quoted_b138 : Fld Z h138 b138 "com/example/semijoin/semijoin/query/Identifier" "quoted" "Z" (.int (0 : Int32)) := D138 (Or.inr (hw _ (List.mem_of_getElem? (i := 52) rfl))) (ty := .boolean) (by decide)
      have F_position_b138 : Fld Z h138 b138 "com/example/semijoin/semijoin/query/Identifier" "position" "Lcom/example/semijoin/semijoin/query/Position;" .null := D138 (Or.inr (hw _ (List.mem_of_getElem? (i := 54) rfl))) (ty := (.object "com/example/semijoin/semijoin/query/Position")) (by decide)
      have c140 : Sta Z h138 "java/lang/String" "COMPACT_STRINGS" "Z" (.int cs) := ((own_sta_keep ((own_sta_keep ((own_sta_keep (S_cs.ext E1) Kq3 (allS (own_plain_exa A1) all0)).ext E5) Kq7 (allS (own_plain_exa A5) all0)).ext E9) Kq11 (allS (own_plain_exa A9) all0)).ext E138)
      obtain ⟨_, _, ⟨T141, L141, k141, n141⟩, -, X141, ⟨Lc141, hQ141, l141, y141, z141⟩, st141⟩ := Jvm.LawKit.callS X138 hx (y := (⟨"java/lang/String", "valueOf", "(C)Ljava/lang/String;"⟩ : MethodName)) hown (mvT hZ (hw _ (List.mem_of_getElem? (i := 21) rfl))) (mvT hZ (hw _ (List.mem_of_getElem? (i := 22) rfl))) (mvT hZ (hw _ (List.mem_of_getElem? (i := 23) rfl))) (mvT hZ (hw _ (List.mem_of_getElem? (i := 24) rfl))) (by decide) (backOf (W := 2) (rmVO l Z a0 hw [] c1 cs h138 n0 Z139 c140 hcs hc1) hZ (hw _ (List.mem_of_getElem? (i := 24) rfl)) (hw _ (List.mem_of_getElem? (i := 23) rfl)) (by decide) (by decide)) (g := (mkF m 114 #[.val (.int p0), .val (.int p1), .val (.int p2), .val (.int p3), .val (.int p4), .val (.long q5), .second, .val (.ref b1), .val (.ref b5), .val (.ref b9), .val (.int (1 : Int32)), .val (.int (1 : Int32)), .val (.int c1), .val (.int c2), .val (.int c3), .val .null, .unset, .unset, .unset, .unset, .unset] [(.int c1), (.ref b138), (.ref b138)])) rfl (by rw [hml]; rfl) (argsL := [(.int c1)]) (rest := [(.ref b138), (.ref b138)]) (lenOf pd_6 rfl) rfl (by show 2 * 0 + _ ≤ _; exact Nat.le_of_eq rfl) (hb hby at_114) (fun _ _ => ⟨rfl, e138, (by decide : 4 + 2 ≤ _), (by decide : 12 + 5 ≤ _)⟩)
      dsimp only [Pt.U, Pt.locs, Pt.cells, Pt.slots] at X141 l141 y141 z141 st141 hQ141
      subst l141 y141 z141
      obtain ⟨ar141, rfl, Nq141, Kq141⟩ := hQ141
      have N141 := Fr.app N136 Nq141
      have Z142 : n0 ≤ T141.heap.size := Nat.le_trans Z139 Kq141.1
      have c143 : Exa Z T141.heap b138 "com/example/semijoin/semijoin/query/Identifier" := (A138.keep Kq141)
      have c144 : Fld Z T141.heap b138 "com/example/semijoin/semijoin/query/Identifier" "text" "Ljava/lang/String;" .null := (F_text_b138.keep Kq141 nin0)
      have c145 : Fld Z T141.heap b138 "com/example/semijoin/semijoin/query/Identifier" "quoted" "Z" (.int (0 : Int32)) := (F_quoted_b138.keep Kq141 nin0)
      have c146 : Fld Z T141.heap b138 "com/example/semijoin/semijoin/query/Identifier" "position" "Lcom/example/semijoin/semijoin/query/Position;" .null := (F_position_b138.keep Kq141 nin0)
      obtain ⟨_, _, ⟨T147, L147, k147, n147⟩, -, X147, ⟨Lc147, hQ147, l147, y147, z147⟩, st147⟩ := X141.specialBack hx (y := (⟨"com/example/semijoin/semijoin/query/Identifier", "<init>", "(Ljava/lang/String;ZLcom/example/semijoin/semijoin/query/Position;)V"⟩ : MethodName)) rfl hown (mvT hZ (hw _ (List.mem_of_getElem? (i := 45) rfl))) (mvT hZ (hw _ (List.mem_of_getElem? (i := 46) rfl))) (mvT hZ (hw _ (List.mem_of_getElem? (i := 47) rfl))) (by decide) (backOf (W := 1) (rmII l Z a0 hw [] b138 ar141 (if (p0 &&& (4 : Int32)) = (0 : Int32) then (0 : Int32) else (1 : Int32)) b1 T141.heap n0 Z142 c143 c144 c145 c146 g_b138) hZ (hw _ (List.mem_of_getElem? (i := 47) rfl)) (hw _ (List.mem_of_getElem? (i := 20) rfl)) (by decide) (by decide)) (g := (mkF m 130 #[.val (.int p0), .val (.int p1), .val (.int p2), .val (.int p3), .val (.int p4), .val (.long q5), .second, .val (.ref b1), .val (.ref b5), .val (.ref b9), .val (.int (1 : Int32)), .val (.int (1 : Int32)), .val (.int c1), .val (.int c2), .val (.int c3), .val .null, .unset, .unset, .unset, .unset, .unset] [(.ref b1), (.int (if (p0 &&& (4 : Int32)) = (0 : Int32) then (0 : Int32) else (1 : Int32))), (.ref ar141), (.ref b138), (.ref b138)])) rfl (by rw [hml]; rfl) (Steps.refl _) (a := b138) (argsL := [(.ref ar141), (.int (if (p0 &&& (4 : Int32)) = (0 : Int32) then (0 : Int32) else (1 : Int32))), (.ref b1)]) (rest := [(.ref b138)]) (lenOf pd_7 rfl) rfl (by show 2 * 0 + _ ≤ _; exact Nat.le_of_eq rfl) (hb hby at_130) (fun _ _ => ⟨rfl, rfl, (by decide : 6 + 0 ≤ _), (by decide : 17 + 0 ≤ _)⟩)
      dsimp only [Pt.U, Pt.locs, Pt.cells, Pt.slots] at X147 l147 y147 z147 st147 hQ147
      subst l147 y147 z147
      obtain ⟨rfl, Nq147, Kq147, Eq147, Fq147⟩ := hQ147
      have N147 := Fr.app N141 Nq147
      have Z148 : n0 ≤ T147.heap.size := Nat.le_trans Z142 Kq147.1
      obtain ⟨T149, h149, X149, e149, E149, A149, D149, -, st149⟩ := newO X147 hx hZ hown (hw _ (List.mem_of_getElem? (i := 18) rfl)) (hw _ (List.mem_of_getElem? (i := 19) rfl)) (hw _ (List.mem_of_getElem? (i := 20) rfl)) rfl (g := (mkF m 143 #[.val (.int p0), .val (.int p1), .val (.int p2), .val (.int p3), .val (.int p4), .val (.long q5), .second, .val (.ref b1), .val (.ref b5), .val (.ref b9), .val (.int (1 : Int32)), .val (.int (1 : Int32)), .val (.int c1), .val (.int c2), .val (.int c3), .val (.ref b138), .val .null, .unset, .unset, .unset, .unset] [])) rfl (hb hby at_143) (by decide) (by decide)
      obtain ⟨b149, g149⟩ : ∃ z, z = T147.heap.size := ⟨_, rfl⟩
      rw [← g149] at A149 D149 st149
      have g_b149 : n0 ≤ b149 := Nat.le_trans Z148 (Nat.le_of_eq g149.symm)
      have Z150 : n0 ≤ h149.size := Nat.le_trans Z148 E149.1
      have F_text_b149 : Fld Z h149 b149 "com/example/semijoin/semijoin/query/Identifier" "text" "Ljava/lang/String;" .null := D149 (Or.inr (hw _ (List.mem_of_getElem? (i := 50) rfl))) (ty := (.object "java/lang/String")) (by decide)
      have F_quoted_b149 : Fld Z h149 b149 "com/example/semijoin/semijoin/query/Identifier" "quoted" "Z" (.int (0 : Int32)) := D149 (Or.inr (hw _ (List.mem_of_getElem? (i := 52) rfl))) (ty := .boolean) (by decide)
      have F_position_b149 : Fld Z h149 b149 "com/example/semijoin/semijoin/query/Identifier" "position" "Lcom/example/semijoin/semijoin/query/Position;" .null := D149 (Or.inr (hw _ (List.mem_of_getElem? (i := 54) rfl))) (ty := (.object "com/example/semijoin/semijoin/query/Position")) (by decide)
      have c151 : Sta Z h149 "java/lang/String" "COMPACT_STRINGS" "Z" (.int cs) := ((own_sta_keep (own_sta_keep c140 Kq141 all0) Kq147 (allS (own_plain_exa c143) all0)).ext E149)
      obtain ⟨_, _, ⟨T152, L152, k152, n152⟩, -, X152, ⟨Lc152, hQ152, l152, y152, z152⟩, st152⟩ := Jvm.LawKit.callS X149 hx (y := (⟨"java/lang/String", "valueOf", "(C)Ljava/lang/String;"⟩ : MethodName)) hown (mvT hZ (hw _ (List.mem_of_getElem? (i := 21) rfl))) (mvT hZ (hw _ (List.mem_of_getElem? (i := 22) rfl))) (mvT hZ (hw _ (List.mem_of_getElem? (i := 23) rfl))) (mvT hZ (hw _ (List.mem_of_getElem? (i := 24) rfl))) (by decide) (backOf (W := 2) (rmVO l Z a0 hw [] c2 cs h149 n0 Z150 c151 hcs hc2) hZ (hw _ (List.mem_of_getElem? (i := 24) rfl)) (hw _ (List.mem_of_getElem? (i := 23) rfl)) (by decide) (by decide)) (g := (mkF m 149 #[.val (.int p0), .val (.int p1), .val (.int p2), .val (.int p3), .val (.int p4), .val (.long q5), .second, .val (.ref b1), .val (.ref b5), .val (.ref b9), .val (.int (1 : Int32)), .val (.int (1 : Int32)), .val (.int c1), .val (.int c2), .val (.int c3), .val (.ref b138), .val .null, .unset, .unset, .unset, .unset] [(.int c2), (.ref b149), (.ref b149)])) rfl (by rw [hml]; rfl) (argsL := [(.int c2)]) (rest := [(.ref b149), (.ref b149)]) (lenOf pd_6 rfl) rfl (by show 2 * 0 + _ ≤ _; exact Nat.le_of_eq rfl) (hb hby at_149) (fun _ _ => ⟨rfl, e149, (by decide : 7 + 2 ≤ _), (by decide : 20 + 5 ≤ _)⟩)
      dsimp only [Pt.U, Pt.locs, Pt.cells, Pt.slots] at X152 l152 y152 z152 st152 hQ152
      subst l152 y152 z152
      obtain ⟨ar152, rfl, Nq152, Kq152⟩ := hQ152
      have N152 := Fr.app N147 Nq152
      have Z153 : n0 ≤ T152.heap.size := Nat.le_trans Z150 Kq152.1
      have c154 : Exa Z T152.heap b149 "com/example/semijoin/semijoin/query/Identifier" := (A149.keep Kq152)
      have c155 : Fld Z T152.heap b149 "com/example/semijoin/semijoin/query/Identifier" "text" "Ljava/lang/String;" .null := (F_text_b149.keep Kq152 nin0)
      have c156 : Fld Z T152.heap b149 "com/example/semijoin/semijoin/query/Identifier" "quoted" "Z" (.int (0 : Int32)) := (F_quoted_b149.keep Kq152 nin0)
      have c157 : Fld Z T152.heap b149 "com/example/semijoin/semijoin/query/Identifier" "position" "Lcom/example/semijoin/semijoin/query/Position;" .null := (F_position_b149.keep Kq152 nin0)
      obtain ⟨_, _, ⟨T158, L158, k158, n158⟩, -, X158, ⟨Lc158, hQ158, l158, y158, z158⟩, st158⟩ := X152.specialBack hx (y := (⟨"com/example/semijoin/semijoin/query/Identifier", "<init>", "(Ljava/lang/String;ZLcom/example/semijoin/semijoin/query/Position;)V"⟩ : MethodName)) rfl hown (mvT hZ (hw _ (List.mem_of_getElem? (i := 45) rfl))) (mvT hZ (hw _ (List.mem_of_getElem? (i := 46) rfl))) (mvT hZ (hw _ (List.mem_of_getElem? (i := 47) rfl))) (by decide) (backOf (W := 1) (rmII l Z a0 hw [] b149 ar152 (if (p0 &&& (8 : Int32)) = (0 : Int32) then (0 : Int32) else (1 : Int32)) b5 T152.heap n0 Z153 c154 c155 c156 c157 g_b149) hZ (hw _ (List.mem_of_getElem? (i := 47) rfl)) (hw _ (List.mem_of_getElem? (i := 20) rfl)) (by decide) (by decide)) (g := (mkF m 166 #[.val (.int p0), .val (.int p1), .val (.int p2), .val (.int p3), .val (.int p4), .val (.long q5), .second, .val (.ref b1), .val (.ref b5), .val (.ref b9), .val (.int (1 : Int32)), .val (.int (1 : Int32)), .val (.int c1), .val (.int c2), .val (.int c3), .val (.ref b138), .val .null, .unset, .unset, .unset, .unset] [(.ref b5), (.int (if (p0 &&& (8 : Int32)) = (0 : Int32) then (0 : Int32) else (1 : Int32))), (.ref ar152), (.ref b149), (.ref b149)])) rfl (by rw [hml]; rfl) (Steps.refl _) (a := b149) (argsL := [(.ref ar152), (.int (if (p0 &&& (8 : Int32)) = (0 : Int32) then (0 : Int32) else (1 : Int32))), (.ref b5)]) (rest := [(.ref b149)]) (lenOf pd_7 rfl) rfl (by show 2 * 0 + _ ≤ _; exact Nat.le_of_eq rfl) (hb hby at_166) (fun _ _ => ⟨rfl, rfl, (by decide : 9 + 0 ≤ _), (by decide : 25 + 0 ≤ _)⟩)
      dsimp only [Pt.U, Pt.locs, Pt.cells, Pt.slots] at X158 l158 y158 z158 st158 hQ158
      subst l158 y158 z158
      obtain ⟨rfl, Nq158, Kq158, Eq158, Fq158⟩ := hQ158
      have N158 := Fr.app N152 Nq158
      have Z159 : n0 ≤ T158.heap.size := Nat.le_trans Z153 Kq158.1
      obtain ⟨T160, h160, X160, e160, E160, A160, D160, -, st160⟩ := newO X158 hx hZ hown (hw _ (List.mem_of_getElem? (i := 18) rfl)) (hw _ (List.mem_of_getElem? (i := 19) rfl)) (hw _ (List.mem_of_getElem? (i := 20) rfl)) rfl (g := (mkF m 171 #[.val (.int p0), .val (.int p1), .val (.int p2), .val (.int p3), .val (.int p4), .val (.long q5), .second, .val (.ref b1), .val (.ref b5), .val (.ref b9), .val (.int (1 : Int32)), .val (.int (1 : Int32)), .val (.int c1), .val (.int c2), .val (.int c3), .val (.ref b138), .val (.ref b149), .unset, .unset, .unset, .unset] [])) rfl (hb hby at_171) (by decide) (by decide)
      obtain ⟨b160, g160⟩ : ∃ z, z = T158.heap.size := ⟨_, rfl⟩
      rw [← g160] at A160 D160 st160
      have g_b160 : n0 ≤ b160 := Nat.le_trans Z159 (Nat.le_of_eq g160.symm)
      have Z161 : n0 ≤ h160.size := Nat.le_trans Z159 E160.1
      have F_text_b160 : Fld Z h160 b160 "com/example/semijoin/semijoin/query/Identifier" "text" "Ljava/lang/String;" .null := D160 (Or.inr (hw _ (List.mem_of_getElem? (i := 50) rfl))) (ty := (.object "java/lang/String")) (by decide)
      have F_quoted_b160 : Fld Z h160 b160 "com/example/semijoin/semijoin/query/Identifier" "quoted" "Z" (.int (0 : Int32)) := D160 (Or.inr (hw _ (List.mem_of_getElem? (i := 52) rfl))) (ty := .boolean) (by decide)
      have F_position_b160 : Fld Z h160 b160 "com/example/semijoin/semijoin/query/Identifier" "position" "Lcom/example/semijoin/semijoin/query/Position;" .null := D160 (Or.inr (hw _ (List.mem_of_getElem? (i := 54) rfl))) (ty := (.object "com/example/semijoin/semijoin/query/Position")) (by decide)
      have c162 : Sta Z h160 "java/lang/String" "COMPACT_STRINGS" "Z" (.int cs) := ((own_sta_keep (own_sta_keep c151 Kq152 all0) Kq158 (allS (own_plain_exa c154) all0)).ext E160)
      obtain ⟨_, _, ⟨T163, L163, k163, n163⟩, -, X163, ⟨Lc163, hQ163, l163, y163, z163⟩, st163⟩ := Jvm.LawKit.callS X160 hx (y := (⟨"java/lang/String", "valueOf", "(C)Ljava/lang/String;"⟩ : MethodName)) hown (mvT hZ (hw _ (List.mem_of_getElem? (i := 21) rfl))) (mvT hZ (hw _ (List.mem_of_getElem? (i := 22) rfl))) (mvT hZ (hw _ (List.mem_of_getElem? (i := 23) rfl))) (mvT hZ (hw _ (List.mem_of_getElem? (i := 24) rfl))) (by decide) (backOf (W := 2) (rmVO l Z a0 hw [] c3 cs h160 n0 Z161 c162 hcs hc3) hZ (hw _ (List.mem_of_getElem? (i := 24) rfl)) (hw _ (List.mem_of_getElem? (i := 23) rfl)) (by decide) (by decide)) (g := (mkF m 177 #[.val (.int p0), .val (.int p1), .val (.int p2), .val (.int p3), .val (.int p4), .val (.long q5), .second, .val (.ref b1), .val (.ref b5), .val (.ref b9), .val (.int (1 : Int32)), .val (.int (1 : Int32)), .val (.int c1), .val (.int c2), .val (.int c3), .val (.ref b138), .val (.ref b149), .unset, .unset, .unset, .unset] [(.int c3), (.ref b160), (.ref b160)])) rfl (by rw [hml]; rfl) (argsL := [(.int c3)]) (rest := [(.ref b160), (.ref b160)]) (lenOf pd_6 rfl) rfl (by show 2 * 0 + _ ≤ _; exact Nat.le_of_eq rfl) (hb hby at_177) (fun _ _ => ⟨rfl, e160, (by decide : 10 + 2 ≤ _), (by decide : 28 + 5 ≤ _)⟩)
      dsimp only [Pt.U, Pt.locs, Pt.cells, Pt.slots] at X163 l163 y163 z163 st163 hQ163
      subst l163 y163 z163
      obtain ⟨ar163, rfl, Nq163, Kq163⟩ := hQ163
      have N163 := Fr.app N158 Nq163
      have Z164 : n0 ≤ T163.heap.size := Nat.le_trans Z161 Kq163.1
      have c165 : Exa Z T163.heap b160 "com/example/semijoin/semijoin/query/Identifier" := (A160.keep Kq163)
      have c166 : Fld Z T163.heap b160 "com/example/semijoin/semijoin/query/Identifier" "text" "Ljava/lang/String;" .null := (F_text_b160.keep Kq163 nin0)
      have c167 : Fld Z T163.heap b160 "com/example/semijoin/semijoin/query/Identifier" "quoted" "Z" (.int (0 : Int32)) := (F_quoted_b160.keep Kq163 nin0)
      have c168 : Fld Z T163.heap b160 "com/example/semijoin/semijoin/query/Identifier" "position" "Lcom/example/semijoin/semijoin/query/Position;" .null := (F_position_b160.keep Kq163 nin0)
      obtain ⟨_, _, ⟨T169, L169, k169, n169⟩, -, X169, ⟨Lc169, hQ169, l169, y169, z169⟩, st169⟩ := X163.specialBack hx (y := (⟨"com/example/semijoin/semijoin/query/Identifier", "<init>", "(Ljava/lang/String;ZLcom/example/semijoin/semijoin/query/Position;)V"⟩ : MethodName)) rfl hown (mvT hZ (hw _ (List.mem_of_getElem? (i := 45) rfl))) (mvT hZ (hw _ (List.mem_of_getElem? (i := 46) rfl))) (mvT hZ (hw _ (List.mem_of_getElem? (i := 47) rfl))) (by decide) (backOf (W := 1) (rmII l Z a0 hw [] b160 ar163 (if (p0 &&& (16 : Int32)) = (0 : Int32) then (0 : Int32) else (1 : Int32)) b9 T163.heap n0 Z164 c165 c166 c167 c168 g_b160) hZ (hw _ (List.mem_of_getElem? (i := 47) rfl)) (hw _ (List.mem_of_getElem? (i := 20) rfl)) (by decide) (by decide)) (g := (mkF m 194 #[.val (.int p0), .val (.int p1), .val (.int p2), .val (.int p3), .val (.int p4), .val (.long q5), .second, .val (.ref b1), .val (.ref b5), .val (.ref b9), .val (.int (1 : Int32)), .val (.int (1 : Int32)), .val (.int c1), .val (.int c2), .val (.int c3), .val (.ref b138), .val (.ref b149), .unset, .unset, .unset, .unset] [(.ref b9), (.int (if (p0 &&& (16 : Int32)) = (0 : Int32) then (0 : Int32) else (1 : Int32))), (.ref ar163), (.ref b160), (.ref b160)])) rfl (by rw [hml]; rfl) (Steps.refl _) (a := b160) (argsL := [(.ref ar163), (.int (if (p0 &&& (16 : Int32)) = (0 : Int32) then (0 : Int32) else (1 : Int32))), (.ref b9)]) (rest := [(.ref b160)]) (lenOf pd_7 rfl) rfl (by show 2 * 0 + _ ≤ _; exact Nat.le_of_eq rfl) (hb hby at_194) (fun _ _ => ⟨rfl, rfl, (by decide : 12 + 0 ≤ _), (by decide : 33 + 0 ≤ _)⟩)
      dsimp only [Pt.U, Pt.locs, Pt.cells, Pt.slots] at X169 l169 y169 z169 st169 hQ169
      subst l169 y169 z169
      obtain ⟨rfl, Nq169, Kq169, Eq169, Fq169⟩ := hQ169
      have N169 := Fr.app N163 Nq169
      have Z170 : n0 ≤ T169.heap.size := Nat.le_trans Z164 Kq169.1
      obtain ⟨T171, h171, X171, e171, E171, A171, D171, -, st171⟩ := newO X169 hx hZ hown (hw _ (List.mem_of_getElem? (i := 55) rfl)) (hw _ (List.mem_of_getElem? (i := 56) rfl)) (hw _ (List.mem_of_getElem? (i := 57) rfl)) rfl (g := (mkF m 199 #[.val (.int p0), .val (.int p1), .val (.int p2), .val (.int p3), .val (.int p4), .val (.long q5), .second, .val (.ref b1), .val (.ref b5), .val (.ref b9), .val (.int (1 : Int32)), .val (.int (1 : Int32)), .val (.int c1), .val (.int c2), .val (.int c3), .val (.ref b138), .val (.ref b149), .val (.ref b160), .unset, .unset, .unset] [])) rfl (hb hby at_199) (by decide) (by decide)
      obtain ⟨b171, g171⟩ : ∃ z, z = T169.heap.size := ⟨_, rfl⟩
      rw [← g171] at A171 D171 st171
      have g_b171 : n0 ≤ b171 := Nat.le_trans Z170 (Nat.le_of_eq g171.symm)
      have Z172 : n0 ≤ h171.size := Nat.le_trans Z170 E171.1
      have F_schema_b171 : Fld Z h171 b171 "com/example/semijoin/semijoin/query/ColumnRef" "schema" "Lcom/example/semijoin/semijoin/query/Identifier;" .null := D171 (Or.inr (hw _ (List.mem_of_getElem? (i := 63) rfl))) (ty := (.object "com/example/semijoin/semijoin/query/Identifier")) (by decide)
      have F_qualifier_b171 : Fld Z h171 b171 "com/example/semijoin/semijoin/query/ColumnRef" "qualifier" "Lcom/example/semijoin/semijoin/query/Identifier;" .null := D171 (Or.inr (hw _ (List.mem_of_getElem? (i := 65) rfl))) (ty := (.object "com/example/semijoin/semijoin/query/Identifier")) (by decide)
      have F_name_b171 : Fld Z h171 b171 "com/example/semijoin/semijoin/query/ColumnRef" "name" "Lcom/example/semijoin/semijoin/query/Identifier;" .null := D171 (Or.inr (hw _ (List.mem_of_getElem? (i := 67) rfl))) (ty := (.object "com/example/semijoin/semijoin/query/Identifier")) (by decide)
      obtain ⟨_, _, ⟨T173, L173, k173, n173⟩, -, X173, ⟨Lc173, hQ173, l173, y173, z173⟩, st173⟩ := X171.specialBack hx (y := (⟨"com/example/semijoin/semijoin/query/ColumnRef", "<init>", "(Lcom/example/semijoin/semijoin/query/Identifier;Lcom/example/semijoin/semijoin/query/Identifier;Lcom/example/semijoin/semijoin/query/Identifier;)V"⟩ : MethodName)) rfl hown (mvT hZ (hw _ (List.mem_of_getElem? (i := 58) rfl))) (mvT hZ (hw _ (List.mem_of_getElem? (i := 59) rfl))) (mvT hZ (hw _ (List.mem_of_getElem? (i := 60) rfl))) (by decide) (backOf (W := 1) (rmCI11 l Z a0 hw [] b171 b138 b149 b160 h171 n0 Z172 A171 F_schema_b171 F_qualifier_b171 F_name_b171 g_b171) hZ (hw _ (List.mem_of_getElem? (i := 60) rfl)) (hw _ (List.mem_of_getElem? (i := 57) rfl)) (by decide) (by decide)) (g := (mkF m 209 #[.val (.int p0), .val (.int p1), .val (.int p2), .val (.int p3), .val (.int p4), .val (.long q5), .second, .val (.ref b1), .val (.ref b5), .val (.ref b9), .val (.int (1 : Int32)), .val (.int (1 : Int32)), .val (.int c1), .val (.int c2), .val (.int c3), .val (.ref b138), .val (.ref b149), .val (.ref b160), .unset, .unset, .unset] [(.ref b160), (.ref b149), (.ref b138), (.ref b171), (.ref b171)])) rfl (by rw [hml]; rfl) (Steps.refl _) (a := b171) (argsL := [(.ref b138), (.ref b149), (.ref b160)]) (rest := [(.ref b171)]) (lenOf pd_8 rfl) rfl (by show 2 * 0 + _ ≤ _; exact Nat.le_of_eq rfl) (hb hby at_209) (fun _ _ => ⟨rfl, e171, (by decide : 13 + 0 ≤ _), (by decide : 36 + 0 ≤ _)⟩)
      dsimp only [Pt.U, Pt.locs, Pt.cells, Pt.slots] at X173 l173 y173 z173 st173 hQ173
      subst l173 y173 z173
      obtain ⟨rfl, Nq173, Kq173, Eq173, Fs173, Fu173, Fn173⟩ := hQ173
      have N173 := Fr.app N169 Nq173
      have Z174 : n0 ≤ T173.heap.size := Nat.le_trans Z172 Kq173.1
      have c175 : Exa Z T173.heap b138 "com/example/semijoin/semijoin/query/Identifier" := ((((((((Eq147.ext E149).keep Kq152).keep Kq158).ext E160).keep Kq163).keep Kq169).ext E171).keep Kq173)
      have c176 : Exa Z T173.heap b160 "com/example/semijoin/semijoin/query/Identifier" := ((Eq169.ext E171).keep Kq173)
      have c177 : Fld Z T173.heap b138 "com/example/semijoin/semijoin/query/Identifier" "position" "Lcom/example/semijoin/semijoin/query/Position;" (.ref b1) := ((((((((Fq147.ext E149).keep Kq152 nin0).keep Kq158 (ninS (Nat.ne_of_lt (Nat.lt_of_lt_of_le (Nat.lt_of_lt_of_le (Nat.lt_of_lt_of_le A138.lt Kq141.1) Kq147.1) (Nat.le_of_eq g149.symm))) nin0)).ext E160).keep Kq163 nin0).keep Kq169 (ninS (Nat.ne_of_lt (Nat.lt_of_lt_of_le (Nat.lt_of_lt_of_le (Nat.lt_of_lt_of_le (Nat.lt_of_lt_of_le (Nat.lt_of_lt_of_le (Nat.lt_of_lt_of_le A138.lt Kq141.1) Kq147.1) E149.1) Kq152.1) Kq158.1) (Nat.le_of_eq g160.symm))) nin0)).ext E171).keep Kq173 (ninS (Nat.ne_of_lt (Nat.lt_of_lt_of_le (Nat.lt_of_lt_of_le (Nat.lt_of_lt_of_le (Nat.lt_of_lt_of_le (Nat.lt_of_lt_of_le (Nat.lt_of_lt_of_le (Nat.lt_of_lt_of_le (Nat.lt_of_lt_of_le (Nat.lt_of_lt_of_le A138.lt Kq141.1) Kq147.1) E149.1) Kq152.1) Kq158.1) E160.1) Kq163.1) Kq169.1) (Nat.le_of_eq g171.symm))) nin0))
      have c178 : Fld Z T173.heap b160 "com/example/semijoin/semijoin/query/Identifier" "position" "Lcom/example/semijoin/semijoin/query/Position;" (.ref b9) := ((Fq169.ext E171).keep Kq173 (ninS (Nat.ne_of_lt (Nat.lt_of_lt_of_le (Nat.lt_of_lt_of_le (Nat.lt_of_lt_of_le A160.lt Kq163.1) Kq169.1) (Nat.le_of_eq g171.symm))) nin0))
      obtain ⟨cq179, kq179, q179a, q179b, q179c⟩ := isOf hZ rfl Eq173
      obtain ⟨_, _, ⟨T179, L179, k179, n179⟩, -, X179, ⟨Lc179, hQ179, l179, y179, z179⟩, st179⟩ := X173.virtualBack hx (y := (⟨"com/example/semijoin/semijoin/query/ColumnRef", "getPosition", "()Lcom/example/semijoin/semijoin/query/Position;"⟩ : MethodName)) (z := (⟨"com/example/semijoin/semijoin/query/ColumnRef", "getPosition", "()Lcom/example/semijoin/semijoin/query/Position;"⟩ : MethodName)) hown (mvT hZ (hw _ (List.mem_of_getElem? (i := 68) rfl))) (mvT hZ (hw _ (List.mem_of_getElem? (i := 69) rfl))) (notFace_of_selects (args := #[]) (mvT hZ (hw _ (List.mem_of_getElem? (i := 71) rfl)))) (mvT hZ (hw _ (List.mem_of_getElem? (i := 71) rfl))) (mvT hZ (hw _ (List.mem_of_getElem? (i := 70) rfl))) (by decide) (backOf (W := 0) (rmCG1 l Z a0 hw [] b171 b138 b160 b1 b9 T173.heap n0 Z174 Fn173 Fs173 c175 c176 c177 c178) hZ (hw _ (List.mem_of_getElem? (i := 72) rfl)) (hw _ (List.mem_of_getElem? (i := 57) rfl)) (by decide) (by decide)) q179a q179c (g := (mkF m 216 #[.val (.int p0), .val (.int p1), .val (.int p2), .val (.int p3), .val (.int p4), .val (.long q5), .second, .val (.ref b1), .val (.ref b5), .val (.ref b9), .val (.int (1 : Int32)), .val (.int (1 : Int32)), .val (.int c1), .val (.int c2), .val (.int c3), .val (.ref b138), .val (.ref b149), .val (.ref b160), .val (.ref b171), .unset, .unset] [(.ref b171)])) rfl (by rw [hml]; rfl) (Steps.refl _) (argsL := []) (rest := []) (lenOf pd_4 rfl) rfl (by show 2 * 0 + _ ≤ _; exact Nat.le_of_eq rfl) (hb hby at_216) (fun _ _ => ⟨rfl, rfl, (by decide : 13 + 0 ≤ _), (by decide : 36 + 0 ≤ _)⟩)
      dsimp only [Pt.U, Pt.locs, Pt.cells, Pt.slots] at X179 l179 y179 z179 st179 hQ179
      subst l179 y179 z179
      obtain ⟨rfl, Nq179, hh179⟩ := hQ179
      have N179 := Fr.app N173 Nq179
      have e179 : T179.heap = T173.heap := hh179
      have pre180 : ∀ t, Steps p.tables e below (T179.setTop (mkF m 261 #[.val (.int p0), .val (.int p1), .val (.int p2), .val (.int p3), .val (.int p4), .val (.long q5), .second, .val (.ref b1), .val (.ref b5), .val (.ref b9), .val (.int (1 : Int32)), .val (.int (1 : Int32)), .val (.int c1), .val (.int c2), .val (.int c3), .val (.ref b138), .val (.ref b149), .val (.ref b160), .val (.ref b171), .val (.ref b1), .val (.ref b1)] [(.int (1 : Int32))])) t → Steps p.tables e below (s₁.setTop (entryFrame m #[(.int p0), (.int p1), (.int p2), (.int p3), (.int p4), (.long q5)] maxLocals)) t := fun t k => by
        refine pre136 t ?_
        show Steps p.tables e below (T136.setTop (mkF m 98 #[.val (.int p0), .val (.int p1), .val (.int p2), .val (.int p3), .val (.int p4), .val (.long q5), .second, .val (.ref b1), .val (.ref b5), .val (.ref b9), .val (.int (1 : Int32)), .val (.int (1 : Int32)), .val (.int c1), .val (.int c2), .unset, .unset, .unset, .unset, .unset, .unset, .unset] [(.int c3)])) _
        refine XS.istore X136.here hx rfl (hb hby at_98) rfl (l' := #[.val (.int p0), .val (.int p1), .val (.int p2), .val (.int p3), .val (.int p4), .val (.long q5), .second, .val (.ref b1), .val (.ref b5), .val (.ref b9), .val (.int (1 : Int32)), .val (.int (1 : Int32)), .val (.int c1), .val (.int c2), .val (.int c3), .unset, .unset, .unset, .unset, .unset, .unset]) rfl ?_
        show Steps p.tables e below (T136.setTop (mkF m 100 #[.val (.int p0), .val (.int p1), .val (.int p2), .val (.int p3), .val (.int p4), .val (.long q5), .second, .val (.ref b1), .val (.ref b5), .val (.ref b9), .val (.int (1 : Int32)), .val (.int (1 : Int32)), .val (.int c1), .val (.int c2), .val (.int c3), .unset, .unset, .unset, .unset, .unset, .unset] [])) _
        refine XS.aconstNull X136.here hx rfl (hb hby at_100) ?_
        show Steps p.tables e below (T136.setTop (mkF m 101 #[.val (.int p0), .val (.int p1), .val (.int p2), .val (.int p3), .val (.int p4), .val (.long q5), .second, .val (.ref b1), .val (.ref b5), .val (.ref b9), .val (.int (1 : Int32)), .val (.int (1 : Int32)), .val (.int c1), .val (.int c2), .val (.int c3), .unset, .unset, .unset, .unset, .unset, .unset] [.null])) _
        refine XS.astore X136.here hx rfl (hb hby at_101) rfl rfl (l' := #[.val (.int p0), .val (.int p1), .val (.int p2), .val (.int p3), .val (.int p4), .val (.long q5), .second, .val (.ref b1), .val (.ref b5), .val (.ref b9), .val (.int (1 : Int32)), .val (.int (1 : Int32)), .val (.int c1), .val (.int c2), .val (.int c3), .val .null, .unset, .unset, .unset, .unset, .unset]) rfl ?_
        show Steps p.tables e below (T136.setTop (mkF m 103 #[.val (.int p0), .val (.int p1), .val (.int p2), .val (.int p3), .val (.int p4), .val (.long q5), .second, .val (.ref b1), .val (.ref b5), .val (.ref b9), .val (.int (1 : Int32)), .val (.int (1 : Int32)), .val (.int c1), .val (.int c2), .val (.int c3), .val .null, .unset, .unset, .unset, .unset, .unset] [])) _
        refine XS.iload X136.here hx rfl (hb hby at_103) rfl ?_
        show Steps p.tables e below (T136.setTop (mkF m 105 #[.val (.int p0), .val (.int p1), .val (.int p2), .val (.int p3), .val (.int p4), .val (.long q5), .second, .val (.ref b1), .val (.ref b5), .val (.ref b9), .val (.int (1 : Int32)), .val (.int (1 : Int32)), .val (.int c1), .val (.int c2), .val (.int c3), .val .null, .unset, .unset, .unset, .unset, .unset] [(.int (1 : Int32))])) _
        refine XS.ifNo X136.here hx rfl (hb hby at_105) rfl ((if0 _ _).trans (feq (by decide : ¬ ((1 : Int32) = (0 : Int32)))).1) ?_
        show Steps p.tables e below (T136.setTop (mkF m 108 #[.val (.int p0), .val (.int p1), .val (.int p2), .val (.int p3), .val (.int p4), .val (.long q5), .second, .val (.ref b1), .val (.ref b5), .val (.ref b9), .val (.int (1 : Int32)), .val (.int (1 : Int32)), .val (.int c1), .val (.int c2), .val (.int c3), .val .null, .unset, .unset, .unset, .unset, .unset] [])) _
        refine st138 _ ?_
        show Steps p.tables e below (T138.setTop (mkF m 111 #[.val (.int p0), .val (.int p1), .val (.int p2), .val (.int p3), .val (.int p4), .val (.long q5), .second, .val (.ref b1), .val (.ref b5), .val (.ref b9), .val (.int (1 : Int32)), .val (.int (1 : Int32)), .val (.int c1), .val (.int c2), .val (.int c3), .val .null, .unset, .unset, .unset, .unset, .unset] [(.ref b138)])) _
        refine XS.dup X138.here hx rfl (hb hby at_111) rfl rfl ?_
        show Steps p.tables e below (T138.setTop (mkF m 112 #[.val (.int p0), .val (.int p1), .val (.int p2), .val (.int p3), .val (.int p4), .val (.long q5), .second, .val (.ref b1), .val (.ref b5), .val (.ref b9), .val (.int (1 : Int32)), .val (.int (1 : Int32)), .val (.int c1), .val (.int c2), .val (.int c3), .val .null, .unset, .unset, .unset, .unset, .unset] [(.ref b138), (.ref b138)])) _
        refine XS.iload X138.here hx rfl (hb hby at_112) rfl ?_
        show Steps p.tables e below (T138.setTop (mkF m 114 #[.val (.int p0), .val (.int p1), .val (.int p2), .val (.int p3), .val (.int p4), .val (.long q5), .second, .val (.ref b1), .val (.ref b5), .val (.ref b9), .val (.int (1 : Int32)), .val (.int (1 : Int32)), .val (.int c1), .val (.int c2), .val (.int c3), .val .null, .unset, .unset, .unset, .unset, .unset] [(.int c1), (.ref b138), (.ref b138)])) _
        refine st141 _ ?_
        show Steps p.tables e below (T141.setTop (mkF m 117 #[.val (.int p0), .val (.int p1), .val (.int p2), .val (.int p3), .val (.int p4), .val (.long q5), .second, .val (.ref b1), .val (.ref b5), .val (.ref b9), .val (.int (1 : Int32)), .val (.int (1 : Int32)), .val (.int c1), .val (.int c2), .val (.int c3), .val .null, .unset, .unset, .unset, .unset, .unset] [(.ref ar141), (.ref b138), (.ref b138)])) _
        refine XS.iloadN X141.here hx rfl (hb hby at_117) rfl ?_
        show Steps p.tables e below (T141.setTop (mkF m 118 #[.val (.int p0), .val (.int p1), .val (.int p2), .val (.int p3), .val (.int p4), .val (.long q5), .second, .val (.ref b1), .val (.ref b5), .val (.ref b9), .val (.int (1 : Int32)), .val (.int (1 : Int32)), .val (.int c1), .val (.int c2), .val (.int c3), .val .null, .unset, .unset, .unset, .unset, .unset] [(.int p0), (.ref ar141), (.ref b138), (.ref b138)])) _
        refine XS.iconst X141.here hx rfl (hb hby at_118) ?_
        show Steps p.tables e below (T141.setTop (mkF m 119 #[.val (.int p0), .val (.int p1), .val (.int p2), .val (.int p3), .val (.int p4), .val (.long q5), .second, .val (.ref b1), .val (.ref b5), .val (.ref b9), .val (.int (1 : Int32)), .val (.int (1 : Int32)), .val (.int c1), .val (.int c2), .val (.int c3), .val .null, .unset, .unset, .unset, .unset, .unset] [(.int (4 : Int32)), (.int p0), (.ref ar141), (.ref b138), (.ref b138)])) _
        refine XS.iand X141.here hx rfl (hb hby at_119) rfl ?_
        show Steps p.tables e below (T141.setTop (mkF m 120 #[.val (.int p0), .val (.int p1), .val (.int p2), .val (.int p3), .val (.int p4), .val (.long q5), .second, .val (.ref b1), .val (.ref b5), .val (.ref b9), .val (.int (1 : Int32)), .val (.int (1 : Int32)), .val (.int c1), .val (.int c2), .val (.int c3), .val .null, .unset, .unset, .unset, .unset, .unset] [(.int (p0 &&& (4 : Int32))), (.ref ar141), (.ref b138), (.ref b138)])) _
        refine own_boolI (g := (mkF m 120 #[.val (.int p0), .val (.int p1), .val (.int p2), .val (.int p3), .val (.int p4), .val (.long q5), .second, .val (.ref b1), .val (.ref b5), .val (.ref b9), .val (.int (1 : Int32)), .val (.int (1 : Int32)), .val (.int c1), .val (.int c2), .val (.int c3), .val .null, .unset, .unset, .unset, .unset, .unset] [(.int (p0 &&& (4 : Int32))), (.ref ar141), (.ref b138), (.ref b138)])) X141.here hx rfl (hb hby at_120) (hb hby at_123) (hb hby at_124) (hb hby at_127) rfl (by exact own_b_eq _ _) ?_
        show Steps p.tables e below (T141.setTop (mkF m 128 #[.val (.int p0), .val (.int p1), .val (.int p2), .val (.int p3), .val (.int p4), .val (.long q5), .second, .val (.ref b1), .val (.ref b5), .val (.ref b9), .val (.int (1 : Int32)), .val (.int (1 : Int32)), .val (.int c1), .val (.int c2), .val (.int c3), .val .null, .unset, .unset, .unset, .unset, .unset] [(.int (if (p0 &&& (4 : Int32)) = (0 : Int32) then (0 : Int32) else (1 : Int32))), (.ref ar141), (.ref b138), (.ref b138)])) _
        refine XS.aload X141.here hx rfl (hb hby at_128) rfl rfl ?_
        show Steps p.tables e below (T141.setTop (mkF m 130 #[.val (.int p0), .val (.int p1), .val (.int p2), .val (.int p3), .val (.int p4), .val (.long q5), .second, .val (.ref b1), .val (.ref b5), .val (.ref b9), .val (.int (1 : Int32)), .val (.int (1 : Int32)), .val (.int c1), .val (.int c2), .val (.int c3), .val .null, .unset, .unset, .unset, .unset, .unset] [(.ref b1), (.int (if (p0 &&& (4 : Int32)) = (0 : Int32) then (0 : Int32) else (1 : Int32))), (.ref ar141), (.ref b138), (.ref b138)])) _
        refine st147.trans ?_
        show Steps p.tables e below (T147.setTop (mkF m 133 #[.val (.int p0), .val (.int p1), .val (.int p2), .val (.int p3), .val (.int p4), .val (.long q5), .second, .val (.ref b1), .val (.ref b5), .val (.ref b9), .val (.int (1 : Int32)), .val (.int (1 : Int32)), .val (.int c1), .val (.int c2), .val (.int c3), .val .null, .unset, .unset, .unset, .unset, .unset] [(.ref b138)])) _
        refine XS.astore X147.here hx rfl (hb hby at_133) rfl rfl (l' := #[.val (.int p0), .val (.int p1), .val (.int p2), .val (.int p3), .val (.int p4), .val (.long q5), .second, .val (.ref b1), .val (.ref b5), .val (.ref b9), .val (.int (1 : Int32)), .val (.int (1 : Int32)), .val (.int c1), .val (.int c2), .val (.int c3), .val (.ref b138), .unset, .unset, .unset, .unset, .unset]) rfl ?_
        show Steps p.tables e below (T147.setTop (mkF m 135 #[.val (.int p0), .val (.int p1), .val (.int p2), .val (.int p3), .val (.int p4), .val (.long q5), .second, .val (.ref b1), .val (.ref b5), .val (.ref b9), .val (.int (1 : Int32)), .val (.int (1 : Int32)), .val (.int c1), .val (.int c2), .val (.int c3), .val (.ref b138), .unset, .unset, .unset, .unset, .unset] [])) _
        refine XS.aconstNull X147.here hx rfl (hb hby at_135) ?_
        show Steps p.tables e below (T147.setTop (mkF m 136 #[.val (.int p0), .val (.int p1), .val (.int p2), .val (.int p3), .val (.int p4), .val (.long q5), .second, .val (.ref b1), .val (.ref b5), .val (.ref b9), .val (.int (1 : Int32)), .val (.int (1 : Int32)), .val (.int c1), .val (.int c2), .val (.int c3), .val (.ref b138), .unset, .unset, .unset, .unset, .unset] [.null])) _
        refine XS.astore X147.here hx rfl (hb hby at_136) rfl rfl (l' := #[.val (.int p0), .val (.int p1), .val (.int p2), .val (.int p3), .val (.int p4), .val (.long q5), .second, .val (.ref b1), .val (.ref b5), .val (.ref b9), .val (.int (1 : Int32)), .val (.int (1 : Int32)), .val (.int c1), .val (.int c2), .val (.int c3), .val (.ref b138), .val .null, .unset, .unset, .unset, .unset]) rfl ?_
        show Steps p.tables e below (T147.setTop (mkF m 138 #[.val (.int p0), .val (.int p1), .val (.int p2), .val (.int p3), .val (.int p4), .val (.long q5), .second, .val (.ref b1), .val (.ref b5), .val (.ref b9), .val (.int (1 : Int32)), .val (.int (1 : Int32)), .val (.int c1), .val (.int c2), .val (.int c3), .val (.ref b138), .val .null, .unset, .unset, .unset, .unset] [])) _
        refine XS.iload X147.here hx rfl (hb hby at_138) rfl ?_
        show Steps p.tables e below (T147.setTop (mkF m 140 #[.val (.int p0), .val (.int p1), .val (.int p2), .val (.int p3), .val (.int p4), .val (.long q5), .second, .val (.ref b1), .val (.ref b5), .val (.ref b9), .val (.int (1 : Int32)), .val (.int (1 : Int32)), .val (.int c1), .val (.int c2), .val (.int c3), .val (.ref b138), .val .null, .unset, .unset, .unset, .unset] [(.int (1 : Int32))])) _
        refine XS.ifNo X147.here hx rfl (hb hby at_140) rfl ((if0 _ _).trans (feq (by decide : ¬ ((1 : Int32) = (0 : Int32)))).1) ?_
        show Steps p.tables e below (T147.setTop (mkF m 143 #[.val (.int p0), .val (.int p1), .val (.int p2), .val (.int p3), .val (.int p4), .val (.long q5), .second, .val (.ref b1), .val (.ref b5), .val (.ref b9), .val (.int (1 : Int32)), .val (.int (1 : Int32)), .val (.int c1), .val (.int c2), .val (.int c3), .val (.ref b138), .val .null, .unset, .unset, .unset, .unset] [])) _
        refine st149 _ ?_
        show Steps p.tables e below (T149.setTop (mkF m 146 #[.val (.int p0), .val (.int p1), .val (.int p2), .val (.int p3), .val (.int p4), .val (.long q5), .second, .val (.ref b1), .val (.ref b5), .val (.ref b9), .val (.int (1 : Int32)), .val (.int (1 : Int32)), .val (.int c1), .val (.int c2), .val (.int c3), .val (.ref b138), .val .null, .unset, .unset, .unset, .unset] [(.ref b149)])) _
        refine XS.dup X149.here hx rfl (hb hby at_146) rfl rfl ?_
        show Steps p.tables e below (T149.setTop (mkF m 147 #[.val (.int p0), .val (.int p1), .val (.int p2), .val (.int p3), .val (.int p4), .val (.long q5), .second, .val (.ref b1), .val (.ref b5), .val (.ref b9), .val (.int (1 : Int32)), .val (.int (1 : Int32)), .val (.int c1), .val (.int c2), .val (.int c3), .val (.ref b138), .val .null, .unset, .unset, .unset, .unset] [(.ref b149), (.ref b149)])) _
        refine XS.iload X149.here hx rfl (hb hby at_147) rfl ?_
        show Steps p.tables e below (T149.setTop (mkF m 149 #[.val (.int p0), .val (.int p1), .val (.int p2), .val (.int p3), .val (.int p4), .val (.long q5), .second, .val (.ref b1), .val (.ref b5), .val (.ref b9), .val (.int (1 : Int32)), .val (.int (1 : Int32)), .val (.int c1), .val (.int c2), .val (.int c3), .val (.ref b138), .val .null, .unset, .unset, .unset, .unset] [(.int c2), (.ref b149), (.ref b149)])) _
        refine st152 _ ?_
        show Steps p.tables e below (T152.setTop (mkF m 152 #[.val (.int p0), .val (.int p1), .val (.int p2), .val (.int p3), .val (.int p4), .val (.long q5), .second, .val (.ref b1), .val (.ref b5), .val (.ref b9), .val (.int (1 : Int32)), .val (.int (1 : Int32)), .val (.int c1), .val (.int c2), .val (.int c3), .val (.ref b138), .val .null, .unset, .unset, .unset, .unset] [(.ref ar152), (.ref b149), (.ref b149)])) _
        refine XS.iloadN X152.here hx rfl (hb hby at_152) rfl ?_
        show Steps p.tables e below (T152.setTop (mkF m 153 #[.val (.int p0), .val (.int p1), .val (.int p2), .val (.int p3), .val (.int p4), .val (.long q5), .second, .val (.ref b1), .val (.ref b5), .val (.ref b9), .val (.int (1 : Int32)), .val (.int (1 : Int32)), .val (.int c1), .val (.int c2), .val (.int c3), .val (.ref b138), .val .null, .unset, .unset, .unset, .unset] [(.int p0), (.ref ar152), (.ref b149), (.ref b149)])) _
        refine XS.bipush X152.here hx rfl (hb hby at_153) ?_
        show Steps p.tables e below (T152.setTop (mkF m 155 #[.val (.int p0), .val (.int p1), .val (.int p2), .val (.int p3), .val (.int p4), .val (.long q5), .second, .val (.ref b1), .val (.ref b5), .val (.ref b9), .val (.int (1 : Int32)), .val (.int (1 : Int32)), .val (.int c1), .val (.int c2), .val (.int c3), .val (.ref b138), .val .null, .unset, .unset, .unset, .unset] [(.int (8 : Int32)), (.int p0), (.ref ar152), (.ref b149), (.ref b149)])) _
        refine XS.iand X152.here hx rfl (hb hby at_155) rfl ?_
        show Steps p.tables e below (T152.setTop (mkF m 156 #[.val (.int p0), .val (.int p1), .val (.int p2), .val (.int p3), .val (.int p4), .val (.long q5), .second, .val (.ref b1), .val (.ref b5), .val (.ref b9), .val (.int (1 : Int32)), .val (.int (1 : Int32)), .val (.int c1), .val (.int c2), .val (.int c3), .val (.ref b138), .val .null, .unset, .unset, .unset, .unset] [(.int (p0 &&& (8 : Int32))), (.ref ar152), (.ref b149), (.ref b149)])) _
        refine own_boolI (g := (mkF m 156 #[.val (.int p0), .val (.int p1), .val (.int p2), .val (.int p3), .val (.int p4), .val (.long q5), .second, .val (.ref b1), .val (.ref b5), .val (.ref b9), .val (.int (1 : Int32)), .val (.int (1 : Int32)), .val (.int c1), .val (.int c2), .val (.int c3), .val (.ref b138), .val .null, .unset, .unset, .unset, .unset] [(.int (p0 &&& (8 : Int32))), (.ref ar152), (.ref b149), (.ref b149)])) X152.here hx rfl (hb hby at_156) (hb hby at_159) (hb hby at_160) (hb hby at_163) rfl (by exact own_b_eq _ _) ?_
        show Steps p.tables e below (T152.setTop (mkF m 164 #[.val (.int p0), .val (.int p1), .val (.int p2), .val (.int p3), .val (.int p4), .val (.long q5), .second, .val (.ref b1), .val (.ref b5), .val (.ref b9), .val (.int (1 : Int32)), .val (.int (1 : Int32)), .val (.int c1), .val (.int c2), .val (.int c3), .val (.ref b138), .val .null, .unset, .unset, .unset, .unset] [(.int (if (p0 &&& (8 : Int32)) = (0 : Int32) then (0 : Int32) else (1 : Int32))), (.ref ar152), (.ref b149), (.ref b149)])) _
        refine XS.aload X152.here hx rfl (hb hby at_164) rfl rfl ?_
        show Steps p.tables e below (T152.setTop (mkF m 166 #[.val (.int p0), .val (.int p1), .val (.int p2), .val (.int p3), .val (.int p4), .val (.long q5), .second, .val (.ref b1), .val (.ref b5), .val (.ref b9), .val (.int (1 : Int32)), .val (.int (1 : Int32)), .val (.int c1), .val (.int c2), .val (.int c3), .val (.ref b138), .val .null, .unset, .unset, .unset, .unset] [(.ref b5), (.int (if (p0 &&& (8 : Int32)) = (0 : Int32) then (0 : Int32) else (1 : Int32))), (.ref ar152), (.ref b149), (.ref b149)])) _
        refine st158.trans ?_
        show Steps p.tables e below (T158.setTop (mkF m 169 #[.val (.int p0), .val (.int p1), .val (.int p2), .val (.int p3), .val (.int p4), .val (.long q5), .second, .val (.ref b1), .val (.ref b5), .val (.ref b9), .val (.int (1 : Int32)), .val (.int (1 : Int32)), .val (.int c1), .val (.int c2), .val (.int c3), .val (.ref b138), .val .null, .unset, .unset, .unset, .unset] [(.ref b149)])) _
        refine XS.astore X158.here hx rfl (hb hby at_169) rfl rfl (l' := #[.val (.int p0), .val (.int p1), .val (.int p2), .val (.int p3), .val (.int p4), .val (.long q5), .second, .val (.ref b1), .val (.ref b5), .val (.ref b9), .val (.int (1 : Int32)), .val (.int (1 : Int32)), .val (.int c1), .val (.int c2), .val (.int c3), .val (.ref b138), .val (.ref b149), .unset, .unset, .unset, .unset]) rfl ?_
        show Steps p.tables e below (T158.setTop (mkF m 171 #[.val (.int p0), .val (.int p1), .val (.int p2), .val (.int p3), .val (.int p4), .val (.long q5), .second, .val (.ref b1), .val (.ref b5), .val (.ref b9), .val (.int (1 : Int32)), .val (.int (1 : Int32)), .val (.int c1), .val (.int c2), .val (.int c3), .val (.ref b138), .val (.ref b149), .unset, .unset, .unset, .unset] [])) _
        refine st160 _ ?_
        show Steps p.tables e below (T160.setTop (mkF m 174 #[.val (.int p0), .val (.int p1), .val (.int p2), .val (.int p3), .val (.int p4), .val (.long q5), .second, .val (.ref b1), .val (.ref b5), .val (.ref b9), .val (.int (1 : Int32)), .val (.int (1 : Int32)), .val (.int c1), .val (.int c2), .val (.int c3), .val (.ref b138), .val (.ref b149), .unset, .unset, .unset, .unset] [(.ref b160)])) _
        refine XS.dup X160.here hx rfl (hb hby at_174) rfl rfl ?_
        show Steps p.tables e below (T160.setTop (mkF m 175 #[.val (.int p0), .val (.int p1), .val (.int p2), .val (.int p3), .val (.int p4), .val (.long q5), .second, .val (.ref b1), .val (.ref b5), .val (.ref b9), .val (.int (1 : Int32)), .val (.int (1 : Int32)), .val (.int c1), .val (.int c2), .val (.int c3), .val (.ref b138), .val (.ref b149), .unset, .unset, .unset, .unset] [(.ref b160), (.ref b160)])) _
        refine XS.iload X160.here hx rfl (hb hby at_175) rfl ?_
        show Steps p.tables e below (T160.setTop (mkF m 177 #[.val (.int p0), .val (.int p1), .val (.int p2), .val (.int p3), .val (.int p4), .val (.long q5), .second, .val (.ref b1), .val (.ref b5), .val (.ref b9), .val (.int (1 : Int32)), .val (.int (1 : Int32)), .val (.int c1), .val (.int c2), .val (.int c3), .val (.ref b138), .val (.ref b149), .unset, .unset, .unset, .unset] [(.int c3), (.ref b160), (.ref b160)])) _
        refine st163 _ ?_
        show Steps p.tables e below (T163.setTop (mkF m 180 #[.val (.int p0), .val (.int p1), .val (.int p2), .val (.int p3), .val (.int p4), .val (.long q5), .second, .val (.ref b1), .val (.ref b5), .val (.ref b9), .val (.int (1 : Int32)), .val (.int (1 : Int32)), .val (.int c1), .val (.int c2), .val (.int c3), .val (.ref b138), .val (.ref b149), .unset, .unset, .unset, .unset] [(.ref ar163), (.ref b160), (.ref b160)])) _
        refine XS.iloadN X163.here hx rfl (hb hby at_180) rfl ?_
        show Steps p.tables e below (T163.setTop (mkF m 181 #[.val (.int p0), .val (.int p1), .val (.int p2), .val (.int p3), .val (.int p4), .val (.long q5), .second, .val (.ref b1), .val (.ref b5), .val (.ref b9), .val (.int (1 : Int32)), .val (.int (1 : Int32)), .val (.int c1), .val (.int c2), .val (.int c3), .val (.ref b138), .val (.ref b149), .unset, .unset, .unset, .unset] [(.int p0), (.ref ar163), (.ref b160), (.ref b160)])) _
        refine XS.bipush X163.here hx rfl (hb hby at_181) ?_
        show Steps p.tables e below (T163.setTop (mkF m 183 #[.val (.int p0), .val (.int p1), .val (.int p2), .val (.int p3), .val (.int p4), .val (.long q5), .second, .val (.ref b1), .val (.ref b5), .val (.ref b9), .val (.int (1 : Int32)), .val (.int (1 : Int32)), .val (.int c1), .val (.int c2), .val (.int c3), .val (.ref b138), .val (.ref b149), .unset, .unset, .unset, .unset] [(.int (16 : Int32)), (.int p0), (.ref ar163), (.ref b160), (.ref b160)])) _
        refine XS.iand X163.here hx rfl (hb hby at_183) rfl ?_
        show Steps p.tables e below (T163.setTop (mkF m 184 #[.val (.int p0), .val (.int p1), .val (.int p2), .val (.int p3), .val (.int p4), .val (.long q5), .second, .val (.ref b1), .val (.ref b5), .val (.ref b9), .val (.int (1 : Int32)), .val (.int (1 : Int32)), .val (.int c1), .val (.int c2), .val (.int c3), .val (.ref b138), .val (.ref b149), .unset, .unset, .unset, .unset] [(.int (p0 &&& (16 : Int32))), (.ref ar163), (.ref b160), (.ref b160)])) _
        refine own_boolI (g := (mkF m 184 #[.val (.int p0), .val (.int p1), .val (.int p2), .val (.int p3), .val (.int p4), .val (.long q5), .second, .val (.ref b1), .val (.ref b5), .val (.ref b9), .val (.int (1 : Int32)), .val (.int (1 : Int32)), .val (.int c1), .val (.int c2), .val (.int c3), .val (.ref b138), .val (.ref b149), .unset, .unset, .unset, .unset] [(.int (p0 &&& (16 : Int32))), (.ref ar163), (.ref b160), (.ref b160)])) X163.here hx rfl (hb hby at_184) (hb hby at_187) (hb hby at_188) (hb hby at_191) rfl (by exact own_b_eq _ _) ?_
        show Steps p.tables e below (T163.setTop (mkF m 192 #[.val (.int p0), .val (.int p1), .val (.int p2), .val (.int p3), .val (.int p4), .val (.long q5), .second, .val (.ref b1), .val (.ref b5), .val (.ref b9), .val (.int (1 : Int32)), .val (.int (1 : Int32)), .val (.int c1), .val (.int c2), .val (.int c3), .val (.ref b138), .val (.ref b149), .unset, .unset, .unset, .unset] [(.int (if (p0 &&& (16 : Int32)) = (0 : Int32) then (0 : Int32) else (1 : Int32))), (.ref ar163), (.ref b160), (.ref b160)])) _
        refine XS.aload X163.here hx rfl (hb hby at_192) rfl rfl ?_
        show Steps p.tables e below (T163.setTop (mkF m 194 #[.val (.int p0), .val (.int p1), .val (.int p2), .val (.int p3), .val (.int p4), .val (.long q5), .second, .val (.ref b1), .val (.ref b5), .val (.ref b9), .val (.int (1 : Int32)), .val (.int (1 : Int32)), .val (.int c1), .val (.int c2), .val (.int c3), .val (.ref b138), .val (.ref b149), .unset, .unset, .unset, .unset] [(.ref b9), (.int (if (p0 &&& (16 : Int32)) = (0 : Int32) then (0 : Int32) else (1 : Int32))), (.ref ar163), (.ref b160), (.ref b160)])) _
        refine st169.trans ?_
        show Steps p.tables e below (T169.setTop (mkF m 197 #[.val (.int p0), .val (.int p1), .val (.int p2), .val (.int p3), .val (.int p4), .val (.long q5), .second, .val (.ref b1), .val (.ref b5), .val (.ref b9), .val (.int (1 : Int32)), .val (.int (1 : Int32)), .val (.int c1), .val (.int c2), .val (.int c3), .val (.ref b138), .val (.ref b149), .unset, .unset, .unset, .unset] [(.ref b160)])) _
        refine XS.astore X169.here hx rfl (hb hby at_197) rfl rfl (l' := #[.val (.int p0), .val (.int p1), .val (.int p2), .val (.int p3), .val (.int p4), .val (.long q5), .second, .val (.ref b1), .val (.ref b5), .val (.ref b9), .val (.int (1 : Int32)), .val (.int (1 : Int32)), .val (.int c1), .val (.int c2), .val (.int c3), .val (.ref b138), .val (.ref b149), .val (.ref b160), .unset, .unset, .unset]) rfl ?_
        show Steps p.tables e below (T169.setTop (mkF m 199 #[.val (.int p0), .val (.int p1), .val (.int p2), .val (.int p3), .val (.int p4), .val (.long q5), .second, .val (.ref b1), .val (.ref b5), .val (.ref b9), .val (.int (1 : Int32)), .val (.int (1 : Int32)), .val (.int c1), .val (.int c2), .val (.int c3), .val (.ref b138), .val (.ref b149), .val (.ref b160), .unset, .unset, .unset] [])) _
        refine st171 _ ?_
        show Steps p.tables e below (T171.setTop (mkF m 202 #[.val (.int p0), .val (.int p1), .val (.int p2), .val (.int p3), .val (.int p4), .val (.long q5), .second, .val (.ref b1), .val (.ref b5), .val (.ref b9), .val (.int (1 : Int32)), .val (.int (1 : Int32)), .val (.int c1), .val (.int c2), .val (.int c3), .val (.ref b138), .val (.ref b149), .val (.ref b160), .unset, .unset, .unset] [(.ref b171)])) _
        refine XS.dup X171.here hx rfl (hb hby at_202) rfl rfl ?_
        show Steps p.tables e below (T171.setTop (mkF m 203 #[.val (.int p0), .val (.int p1), .val (.int p2), .val (.int p3), .val (.int p4), .val (.long q5), .second, .val (.ref b1), .val (.ref b5), .val (.ref b9), .val (.int (1 : Int32)), .val (.int (1 : Int32)), .val (.int c1), .val (.int c2), .val (.int c3), .val (.ref b138), .val (.ref b149), .val (.ref b160), .unset, .unset, .unset] [(.ref b171), (.ref b171)])) _
        refine XS.aload X171.here hx rfl (hb hby at_203) rfl rfl ?_
        show Steps p.tables e below (T171.setTop (mkF m 205 #[.val (.int p0), .val (.int p1), .val (.int p2), .val (.int p3), .val (.int p4), .val (.long q5), .second, .val (.ref b1), .val (.ref b5), .val (.ref b9), .val (.int (1 : Int32)), .val (.int (1 : Int32)), .val (.int c1), .val (.int c2), .val (.int c3), .val (.ref b138), .val (.ref b149), .val (.ref b160), .unset, .unset, .unset] [(.ref b138), (.ref b171), (.ref b171)])) _
        refine XS.aload X171.here hx rfl (hb hby at_205) rfl rfl ?_
        show Steps p.tables e below (T171.setTop (mkF m 207 #[.val (.int p0), .val (.int p1), .val (.int p2), .val (.int p3), .val (.int p4), .val (.long q5), .second, .val (.ref b1), .val (.ref b5), .val (.ref b9), .val (.int (1 : Int32)), .val (.int (1 : Int32)), .val (.int c1), .val (.int c2), .val (.int c3), .val (.ref b138), .val (.ref b149), .val (.ref b160), .unset, .unset, .unset] [(.ref b149), (.ref b138), (.ref b171), (.ref b171)])) _
        refine XS.aload X171.here hx rfl (hb hby at_207) rfl rfl ?_
        show Steps p.tables e below (T171.setTop (mkF m 209 #[.val (.int p0), .val (.int p1), .val (.int p2), .val (.int p3), .val (.int p4), .val (.long q5), .second, .val (.ref b1), .val (.ref b5), .val (.ref b9), .val (.int (1 : Int32)), .val (.int (1 : Int32)), .val (.int c1), .val (.int c2), .val (.int c3), .val (.ref b138), .val (.ref b149), .val (.ref b160), .unset, .unset, .unset] [(.ref b160), (.ref b149), (.ref b138), (.ref b171), (.ref b171)])) _
        refine st173.trans ?_
        show Steps p.tables e below (T173.setTop (mkF m 212 #[.val (.int p0), .val (.int p1), .val (.int p2), .val (.int p3), .val (.int p4), .val (.long q5), .second, .val (.ref b1), .val (.ref b5), .val (.ref b9), .val (.int (1 : Int32)), .val (.int (1 : Int32)), .val (.int c1), .val (.int c2), .val (.int c3), .val (.ref b138), .val (.ref b149), .val (.ref b160), .unset, .unset, .unset] [(.ref b171)])) _
        refine XS.astore X173.here hx rfl (hb hby at_212) rfl rfl (l' := #[.val (.int p0), .val (.int p1), .val (.int p2), .val (.int p3), .val (.int p4), .val (.long q5), .second, .val (.ref b1), .val (.ref b5), .val (.ref b9), .val (.int (1 : Int32)), .val (.int (1 : Int32)), .val (.int c1), .val (.int c2), .val (.int c3), .val (.ref b138), .val (.ref b149), .val (.ref b160), .val (.ref b171), .unset, .unset]) rfl ?_
        show Steps p.tables e below (T173.setTop (mkF m 214 #[.val (.int p0), .val (.int p1), .val (.int p2), .val (.int p3), .val (.int p4), .val (.long q5), .second, .val (.ref b1), .val (.ref b5), .val (.ref b9), .val (.int (1 : Int32)), .val (.int (1 : Int32)), .val (.int c1), .val (.int c2), .val (.int c3), .val (.ref b138), .val (.ref b149), .val (.ref b160), .val (.ref b171), .unset, .unset] [])) _
        refine XS.aload X173.here hx rfl (hb hby at_214) rfl rfl ?_
        show Steps p.tables e below (T173.setTop (mkF m 216 #[.val (.int p0), .val (.int p1), .val (.int p2), .val (.int p3), .val (.int p4), .val (.long q5), .second, .val (.ref b1), .val (.ref b5), .val (.ref b9), .val (.int (1 : Int32)), .val (.int (1 : Int32)), .val (.int c1), .val (.int c2), .val (.int c3), .val (.ref b138), .val (.ref b149), .val (.ref b160), .val (.ref b171), .unset, .unset] [(.ref b171)])) _
        refine st179.trans ?_
        show Steps p.tables e below (T179.setTop (mkF m 219 #[.val (.int p0), .val (.int p1), .val (.int p2), .val (.int p3), .val (.int p4), .val (.long q5), .second, .val (.ref b1), .val (.ref b5), .val (.ref b9), .val (.int (1 : Int32)), .val (.int (1 : Int32)), .val (.int c1), .val (.int c2), .val (.int c3), .val (.ref b138), .val (.ref b149), .val (.ref b160), .val (.ref b171), .unset, .unset] [(.ref b1)])) _
        refine XS.astore X179.here hx rfl (hb hby at_219) rfl rfl (l' := #[.val (.int p0), .val (.int p1), .val (.int p2), .val (.int p3), .val (.int p4), .val (.long q5), .second, .val (.ref b1), .val (.ref b5), .val (.ref b9), .val (.int (1 : Int32)), .val (.int (1 : Int32)), .val (.int c1), .val (.int c2), .val (.int c3), .val (.ref b138), .val (.ref b149), .val (.ref b160), .val (.ref b171), .val (.ref b1), .unset]) rfl ?_
        show Steps p.tables e below (T179.setTop (mkF m 221 #[.val (.int p0), .val (.int p1), .val (.int p2), .val (.int p3), .val (.int p4), .val (.long q5), .second, .val (.ref b1), .val (.ref b5), .val (.ref b9), .val (.int (1 : Int32)), .val (.int (1 : Int32)), .val (.int c1), .val (.int c2), .val (.int c3), .val (.ref b138), .val (.ref b149), .val (.ref b160), .val (.ref b171), .val (.ref b1), .unset] [])) _
        refine XS.iload X179.here hx rfl (hb hby at_221) rfl ?_
        show Steps p.tables e below (T179.setTop (mkF m 223 #[.val (.int p0), .val (.int p1), .val (.int p2), .val (.int p3), .val (.int p4), .val (.long q5), .second, .val (.ref b1), .val (.ref b5), .val (.ref b9), .val (.int (1 : Int32)), .val (.int (1 : Int32)), .val (.int c1), .val (.int c2), .val (.int c3), .val (.ref b138), .val (.ref b149), .val (.ref b160), .val (.ref b171), .val (.ref b1), .unset] [(.int (1 : Int32))])) _
        refine XS.ifNo X179.here hx rfl (hb hby at_223) rfl ((if0 _ _).trans (feq (by decide : ¬ ((1 : Int32) = (0 : Int32)))).1) ?_
        show Steps p.tables e below (T179.setTop (mkF m 226 #[.val (.int p0), .val (.int p1), .val (.int p2), .val (.int p3), .val (.int p4), .val (.long q5), .second, .val (.ref b1), .val (.ref b5), .val (.ref b9), .val (.int (1 : Int32)), .val (.int (1 : Int32)), .val (.int c1), .val (.int c2), .val (.int c3), .val (.ref b138), .val (.ref b149), .val (.ref b160), .val (.ref b171), .val (.ref b1), .unset] [])) _
        refine XS.aload X179.here hx rfl (hb hby at_226) rfl rfl ?_
        show Steps p.tables e below (T179.setTop (mkF m 228 #[.val (.int p0), .val (.int p1), .val (.int p2), .val (.int p3), .val (.int p4), .val (.long q5), .second, .val (.ref b1), .val (.ref b5), .val (.ref b9), .val (.int (1 : Int32)), .val (.int (1 : Int32)), .val (.int c1), .val (.int c2), .val (.int c3), .val (.ref b138), .val (.ref b149), .val (.ref b160), .val (.ref b171), .val (.ref b1), .unset] [(.ref b1)])) _
        refine XS.astore X179.here hx rfl (hb hby at_228) rfl rfl (l' := #[.val (.int p0), .val (.int p1), .val (.int p2), .val (.int p3), .val (.int p4), .val (.long q5), .second, .val (.ref b1), .val (.ref b5), .val (.ref b9), .val (.int (1 : Int32)), .val (.int (1 : Int32)), .val (.int c1), .val (.int c2), .val (.int c3), .val (.ref b138), .val (.ref b149), .val (.ref b160), .val (.ref b171), .val (.ref b1), .val (.ref b1)]) rfl ?_
        show Steps p.tables e below (T179.setTop (mkF m 230 #[.val (.int p0), .val (.int p1), .val (.int p2), .val (.int p3), .val (.int p4), .val (.long q5), .second, .val (.ref b1), .val (.ref b5), .val (.ref b9), .val (.int (1 : Int32)), .val (.int (1 : Int32)), .val (.int c1), .val (.int c2), .val (.int c3), .val (.ref b138), .val (.ref b149), .val (.ref b160), .val (.ref b171), .val (.ref b1), .val (.ref b1)] [])) _
        refine XS.goto X179.here hx rfl (pc0 := 230) (pc' := 249) rfl (hb hby at_230) (by decide) (by decide) ?_
        show Steps p.tables e below (T179.setTop (mkF m 249 #[.val (.int p0), .val (.int p1), .val (.int p2), .val (.int p3), .val (.int p4), .val (.long q5), .second, .val (.ref b1), .val (.ref b5), .val (.ref b9), .val (.int (1 : Int32)), .val (.int (1 : Int32)), .val (.int c1), .val (.int c2), .val (.int c3), .val (.ref b138), .val (.ref b149), .val (.ref b160), .val (.ref b171), .val (.ref b1), .val (.ref b1)] [])) _
        refine XS.aload X179.here hx rfl (hb hby at_249) rfl rfl ?_
        show Steps p.tables e below (T179.setTop (mkF m 251 #[.val (.int p0), .val (.int p1), .val (.int p2), .val (.int p3), .val (.int p4), .val (.long q5), .second, .val (.ref b1), .val (.ref b5), .val (.ref b9), .val (.int (1 : Int32)), .val (.int (1 : Int32)), .val (.int c1), .val (.int c2), .val (.int c3), .val (.ref b138), .val (.ref b149), .val (.ref b160), .val (.ref b171), .val (.ref b1), .val (.ref b1)] [(.ref b1)])) _
        refine XS.aload X179.here hx rfl (hb hby at_251) rfl rfl ?_
        show Steps p.tables e below (T179.setTop (mkF m 253 #[.val (.int p0), .val (.int p1), .val (.int p2), .val (.int p3), .val (.int p4), .val (.long q5), .second, .val (.ref b1), .val (.ref b5), .val (.ref b9), .val (.int (1 : Int32)), .val (.int (1 : Int32)), .val (.int c1), .val (.int c2), .val (.int c3), .val (.ref b138), .val (.ref b149), .val (.ref b160), .val (.ref b171), .val (.ref b1), .val (.ref b1)] [(.ref b1), (.ref b1)])) _
        refine Jvm.RoadKit.acmp (g := (mkF m 253 #[.val (.int p0), .val (.int p1), .val (.int p2), .val (.int p3), .val (.int p4), .val (.long q5), .second, .val (.ref b1), .val (.ref b5), .val (.ref b9), .val (.int (1 : Int32)), .val (.int (1 : Int32)), .val (.int c1), .val (.int c2), .val (.int c3), .val (.ref b138), .val (.ref b149), .val (.ref b160), .val (.ref b171), .val (.ref b1), .val (.ref b1)] [(.ref b1), (.ref b1)])) X179 hx rfl rfl rfl (pc0 := 253) (pc' := 256) (same := true) rfl (hb hby at_253) rfl (decide_eq_true rfl) (by decide) (by decide) ?_
        show Steps p.tables e below (T179.setTop (mkF m 256 #[.val (.int p0), .val (.int p1), .val (.int p2), .val (.int p3), .val (.int p4), .val (.long q5), .second, .val (.ref b1), .val (.ref b5), .val (.ref b9), .val (.int (1 : Int32)), .val (.int (1 : Int32)), .val (.int c1), .val (.int c2), .val (.int c3), .val (.ref b138), .val (.ref b149), .val (.ref b160), .val (.ref b171), .val (.ref b1), .val (.ref b1)] [])) _
        refine XS.iconst X179.here hx rfl (hb hby at_256) ?_
        show Steps p.tables e below (T179.setTop (mkF m 257 #[.val (.int p0), .val (.int p1), .val (.int p2), .val (.int p3), .val (.int p4), .val (.long q5), .second, .val (.ref b1), .val (.ref b5), .val (.ref b9), .val (.int (1 : Int32)), .val (.int (1 : Int32)), .val (.int c1), .val (.int c2), .val (.int c3), .val (.ref b138), .val (.ref b149), .val (.ref b160), .val (.ref b171), .val (.ref b1), .val (.ref b1)] [(.int (1 : Int32))])) _
        refine XS.goto X179.here hx rfl (pc0 := 257) (pc' := 261) rfl (hb hby at_257) (by decide) (by decide) ?_
        exact k
      obtain ⟨fs, hrq, hrun, hended, hW, hsame⟩ := X179.leave (v := some (.int (1 : Int32))) (fun h => by rw [Bd.returns] at h; cases h)
      refine ⟨_, _, pre180 _ ?_, hrun, hended, _, _, rfl, ?_, ⟨_, rfl⟩, hW, hsame.mono (by decide) (by decide)⟩
      · show Steps p.tables e below (T179.setTop (mkF m 261 #[.val (.int p0), .val (.int p1), .val (.int p2), .val (.int p3), .val (.int p4), .val (.long q5), .second, .val (.ref b1), .val (.ref b5), .val (.ref b9), .val (.int (1 : Int32)), .val (.int (1 : Int32)), .val (.int c1), .val (.int c2), .val (.int c3), .val (.ref b138), .val (.ref b149), .val (.ref b160), .val (.ref b171), .val (.ref b1), .val (.ref b1)] [(.int (1 : Int32))])) _
        exact retN X179 hx (t := .boolean) Bd.returns (by simp) (hb hby at_261) hrq
      · show Q0 Z p0 p1 p2 p3 p4 q5 cs h0 n0 _ T179.heap _
        rw [e179]
        exact ⟨rfl, N179⟩
set_option maxRecDepth 65536 in
set_option maxHeartbeats 40000000 in
theorem comes_1 {Post : Tables → Env → Array Value → State → Outcome → State → Prop} (hpost : ∀ tb e args s v u, (limb_1_1.after args s (.returned v) u = true ∧ limb_1_2.after args s (.returned v) u = true ∧ True) → FrameEnd s (.returned v) u (Jvm.fieldLocs frame_1_writes args s ++ Jvm.arrayLocs frame_1_arrays args s ++ Jvm.staticLocs frame_1_statics s) 40 192 → Post tb e args s (.returned v) u) :
    ArmFor flags0 classFile x code maxLocals ret World_1 tables_1 room_1 Calls_1 rest_1 Pre_1 Post := by
  intro l hfl _ _ p e ha hc hk s m args below hf hA hF happ hP
  obtain ⟨hcalls, hrest, hpre⟩ := hP
  obtain ⟨-, -, -, hnamed, -, -, -, hat⟩ := (Spec.applies_iff hf).mp happ
  obtain ⟨hg, hn⟩ := and_e (Cond.before_iff.mp (show (Jvm.Cond.and given_1 narrow_1).before args s = true from hpre))
  obtain ⟨gc, g0⟩ := and_e hg
  obtain ⟨ga0, g1⟩ := and_e g0
  obtain ⟨ga1, g2⟩ := and_e g1
  obtain ⟨ga2, g3⟩ := and_e g2
  obtain ⟨ga3, g4⟩ := and_e g3
  obtain ⟨ga4, g5⟩ := and_e g4
  have ga5 := g5
  obtain ⟨w0, w1, w2, w3, w4, w5, rfl⟩ : ∃ w0 w1 w2 w3 w4 w5 : Value, args = #[w0, w1, w2, w3, w4, w5] := by
    have hs : args.size = 6 := by simpa [Cond.value, given_1] using gc
    obtain ⟨L⟩ := args
    match L, hs with
    | [w0, w1, w2, w3, w4, w5], _ => exact ⟨w0, w1, w2, w3, w4, w5, rfl⟩
  have hw := fun d (hd : d ∈ tables_1) => atoms_spec (ws := Jvm.Cond.code x code maxLocals ret :: tables_1) hat d (List.mem_cons_of_mem _ hd)
  have hfit : Fit s := fun {y c} hc i hi => by
    obtain ⟨ha, rfl⟩ := Array.getElem?_eq_some_iff.mp hc
    have q := List.all_eq_true.mp ((Array.all_eq_true_iff_forall_mem.mp hF) _ (Array.getElem_mem ha)) i (List.mem_range.mpr hi)
    simpa [Array.getElem?_eq_getElem hi] using q
  obtain ⟨hsets, hown0⟩ := atoms_of _ (rest_1_c_eq ▸ (show rest_1_c.before _ s = true from hrest))
  obtain ⟨i0, ei0⟩ := is_v ga0
  obtain rfl : w0 = (.int i0) := Option.some.inj ei0
  obtain ⟨i1, ei1⟩ := is_v ga1
  obtain rfl : w1 = (.int i1) := Option.some.inj ei1
  obtain ⟨i2, ei2⟩ := is_v ga2
  obtain rfl : w2 = (.int i2) := Option.some.inj ei2
  obtain ⟨i3, ei3⟩ := is_v ga3
  obtain rfl : w3 = (.int i3) := Option.some.inj ei3
  obtain ⟨i4, ei4⟩ := is_v ga4
  obtain rfl : w4 = (.int i4) := Option.some.inj ei4
  obtain ⟨i5, ei5⟩ := isL_v ga5
  obtain rfl : w5 = (.long i5) := Option.some.inj ei5
  obtain ⟨cs, ecs⟩ := is_v (Cond.before_iff.mp (hsets _ (List.mem_of_getElem? (i := 1) rfl)))
  have S_cs := Sta.start ecs (Or.inl (hsets _ (List.mem_of_getElem? (i := 0) rfl)))
  have hcs : ¬ (cs = (0 : Int32)) := own_csne ecs (Cond.before_iff.mp (hsets _ (List.mem_of_getElem? (i := 2) rfl)))
  obtain ⟨n, o, h1, h2, h3, _, L, rfl, ⟨rfl, N⟩, hq⟩ := rm0 l s _ hw tables_1 i0 i1 i2 i3 i4 i5 cs s.heap s.heap.size (Nat.le_refl _) S_cs hcs p e ha hc hk s m _ below hf ((Spec.applies_iff_loose hf).mp happ).1 ⟨rfl, State.Warmed39.refl s, rfl⟩ trivial
  refine ⟨n, _, h1, h2, h3, hpost _ _ _ _ _ _ ⟨Cond.after_iff.mpr rfl, Cond.after_iff.mpr (eq_i res_at (Term.int_eval (1)) rfl), trivial⟩ ⟨hq.1, hq.2.1, (hq.2.2.sift fun y hy => Or.inr (N y hy)).mono (by decide) (by decide)⟩⟩
theorem main_1_1 : Claimed_1_1 := comes_1 fun _ _ _ _ _ _ h hF => ⟨h.1, hF⟩
theorem main_1_2 : Claimed_1_2 := comes_1 fun _ _ _ _ _ _ h hF => ⟨h.2.1, hF⟩
end Jvm.Pilot.@@N@@
namespace Jvm.Pilot.@@N@@
open Jvm Jvm.ClassFile Sem Op Lib Jvm.Free Jvm.Stand Jvm.Pilot.@@N@@.Jvm.D
/-! MADE BY PROGRAM (witnessworld.py) out of the Statement's table words and the real class files: 20 classes; the members and pool entries that the words name. The judged class is class 1, her method 1. -/
namespace start1
open Jvm.ClassFile
def u (s : String) : CpInfo := .utf8 (stringToUtf16 s)
/-- a pool by its gaps: so many unusable entries, then the entry; so many at the end -/
def gap : Nat → List CpInfo → List CpInfo
  | 0, r => r
  | n + 1, r => .unusable :: gap n r
def poolList (es : List (Nat × CpInfo)) (last : Nat) : List CpInfo := es.foldr (fun e r => gap e.1 (e.2 :: r)) (gap last [])
def pool (es : List (Nat × CpInfo)) (last : Nat) : Array CpInfo := ⟨poolList es last⟩
def fileOf (pool : Array CpInfo) (this : Nat) (attrs : Array Attribute := #[]) (ms : Array MethodInfo := #[]) (fl : Nat := 33) (sup : Nat := 0) (ifs : Array Nat := #[]) (fds : Array FieldInfo := #[]) : ClassFile where
  minorVersion := 0
  majorVersion := 65
  constantPool := pool
  accessFlags := fl
  thisClass := this
  superClass := sup
  interfaces := ifs
  fields := fds
  methods := ms
  attributes := attrs
def plain (name : String) (sup : Option ClassId) : Class where
  name := name
  kind := .ordinary
  loader := none
  accessFlags := 33
  super := sup
  interfaces := #[]
  cf := none
  fields := #[]
  methods := #[]
  instanceTypes := #[]
  staticTypes := #[]
  resolved := #[]
  callSites := []
  init := .initialized
  statics := none
  mirror := none

def pool0 : Array CpInfo := pool [(5, u "<init>"), (0, u "()V"), (1, .class_ 10), (1, u "java/lang/Object")] 113

def k0c0 : Code := { maxStack := 0, maxLocals := 1, code := object_method_1_code, exceptionTable := #[], attributes := #[] }
def k0m0 : Method := { name := "<init>", desc := "()V", sig := { parameters := [], returnType := none }, accessFlags := 1, code := some k0c0 }
/-- java/lang/Object -/
def k0 : Class := { plain "java/lang/Object" none with
  accessFlags := 33
  interfaces := #[]
  cf := some (fileOf pool0 8 #[] #[{ accessFlags := 1, nameIndex := 5, descriptorIndex := 6, attributes := #[] }] 33 0 #[] #[])
  fields := #[]
  methods := #[k0m0]
  instanceTypes := #[]
  staticTypes := #[]
  resolved := Array.replicate 124 none
  statics := none }

def pool1 : Array CpInfo := pool [(2, .class_ 4), (1, u "java/lang/Object"), (0, u "<init>"), (0, u "()V"), (0, .class_ 8), (0, u "com/example/semijoin/semijoin/query/Position"), (0, .methodref 7 10), (0, .nameAndType 5 11), (0, u "(II)V"), (0, .class_ 13), (0, u "com/example/semijoin/semijoin/query/Identifier"), (0, .methodref 15 16), (0, .class_ 17), (0, .nameAndType 18 19), (0, u "java/lang/String"), (0, u "valueOf"), (0, u "(C)Ljava/lang/String;"), (0, .methodref 12 21), (0, .nameAndType 5 22), (0, u "(Ljava/lang/String;ZLcom/example/semijoin/semijoin/query/Position;)V"), (0, .class_ 24), (0, u "com/example/semijoin/semijoin/query/ColumnRef"), (0, .methodref 23 26), (0, .nameAndType 5 27), (0, u "(Lcom/example/semijoin/semijoin/query/Identifier;Lcom/example/semijoin/semijoin/query/Identifier;Lcom/example/semijoin/semijoin/query/Identifier;)V"), (0, .methodref 23 29), (0, .nameAndType 30 31), (0, u "getPosition"), (0, u "()Lcom/example/semijoin/semijoin/query/Position;"), (0, .class_ 33), (0, u "com/example/semijoin/semijoin/query/ColumnRefGetPositionPinLaw"), (2, u "law"), (0, u "(IIIIIJ)Z")] 3

def k1m0 : Method := { name := "<init>", desc := "()V", sig := { parameters := [], returnType := none }, accessFlags := 1, code := none }
def k1c1 : Code := { maxStack := 6, maxLocals := 21, code := code, exceptionTable := #[], attributes := #[] }
def k1m1 : Method := { name := "law", desc := "(IIIIIJ)Z", sig := { parameters := [.int, .int, .int, .int, .int, .long], returnType := some .boolean }, accessFlags := 9, code := some k1c1 }
/-- com/example/semijoin/semijoin/query/ColumnRefGetPositionPinLaw -/
def k1 : Class := { plain "com/example/semijoin/semijoin/query/ColumnRefGetPositionPinLaw" (some 0) with
  accessFlags := 49
  interfaces := #[]
  cf := some (fileOf pool1 32 #[] #[{ accessFlags := 1, nameIndex := 5, descriptorIndex := 6, attributes := #[] }, { accessFlags := 9, nameIndex := 36, descriptorIndex := 37, attributes := #[] }] 49 2 #[] #[])
  fields := #[]
  methods := #[k1m0, k1m1]
  instanceTypes := #[]
  staticTypes := #[]
  resolved := Array.replicate 41 none
  statics := none }

def pool2 : Array CpInfo := pool [(1, .methodref 2 3), (0, .class_ 4), (0, .nameAndType 5 6), (0, u "com/example/semijoin/semijoin/query/Position"), (0, u "<init>"), (0, u "(IILjava/lang/String;)V"), (0, .methodref 8 9), (0, .class_ 10), (0, .nameAndType 5 11), (0, u "java/lang/Object"), (0, u "()V"), (0, .fieldref 2 13), (0, .nameAndType 14 15), (0, u "line"), (0, u "I"), (0, .fieldref 2 17), (0, .nameAndType 18 15), (0, u "column"), (0, .fieldref 2 20), (0, .nameAndType 21 22), (0, u "source"), (0, u "Ljava/lang/String;"), (9, u "(II)V")] 30

def k2c0 : Code := { maxStack := 4, maxLocals := 3, code := prog_88_method_1_code, exceptionTable := #[], attributes := #[] }
def k2m0 : Method := { name := "<init>", desc := "(II)V", sig := { parameters := [.int, .int], returnType := none }, accessFlags := 1, code := some k2c0 }
def k2c1 : Code := { maxStack := 2, maxLocals := 4, code := prog_88_method_2_code, exceptionTable := #[], attributes := #[] }
def k2m1 : Method := { name := "<init>", desc := "(IILjava/lang/String;)V", sig := { parameters := [.int, .int, (.object "java/lang/String")], returnType := none }, accessFlags := 1, code := some k2c1 }
/-- com/example/semijoin/semijoin/query/Position -/
def k2 : Class := { plain "com/example/semijoin/semijoin/query/Position" (some 0) with
  accessFlags := 49
  interfaces := #[]
  cf := some (fileOf pool2 2 #[] #[{ accessFlags := 1, nameIndex := 5, descriptorIndex := 32, attributes := #[] }, { accessFlags := 1, nameIndex := 5, descriptorIndex := 6, attributes := #[] }] 49 8 #[] #[{ accessFlags := 18, nameIndex := 14, descriptorIndex := 15, attributes := #[] }, { accessFlags := 18, nameIndex := 18, descriptorIndex := 15, attributes := #[] }, { accessFlags := 18, nameIndex := 21, descriptorIndex := 22, attributes := #[] }])
  fields := #[{ name := "line", type := .int, accessFlags := 18, slot := 0, constantValue := 0 }, { name := "column", type := .int, accessFlags := 18, slot := 1, constantValue := 0 }, { name := "source", type := (.object "java/lang/String"), accessFlags := 18, slot := 2, constantValue := 0 }]
  methods := #[k2m0, k2m1]
  instanceTypes := #[.int, .int, (.object "java/lang/String")]
  staticTypes := #[]
  resolved := Array.replicate 63 none
  statics := none }

def pool3 : Array CpInfo := pool [(1, .methodref 2 3), (0, .class_ 4), (0, .nameAndType 5 6), (0, u "java/lang/Object"), (0, u "<init>"), (0, u "()V"), (0, .fieldref 8 9), (0, .class_ 10), (0, .nameAndType 11 12), (0, u "com/example/semijoin/semijoin/query/Identifier"), (0, u "text"), (0, u "Ljava/lang/String;"), (0, .fieldref 8 14), (0, .nameAndType 15 16), (0, u "quoted"), (0, u "Z"), (0, .fieldref 8 18), (0, .nameAndType 19 20), (0, u "position"), (0, u "Lcom/example/semijoin/semijoin/query/Position;"), (22, u "(Ljava/lang/String;ZLcom/example/semijoin/semijoin/query/Position;)V"), (6, u "getPosition"), (0, u "()Lcom/example/semijoin/semijoin/query/Position;")] 21

def k3c0 : Code := { maxStack := 2, maxLocals := 4, code := prog_74_method_1_code, exceptionTable := #[], attributes := #[] }
def k3m0 : Method := { name := "<init>", desc := "(Ljava/lang/String;ZLcom/example/semijoin/semijoin/query/Position;)V", sig := { parameters := [(.object "java/lang/String"), .boolean, (.object "com/example/semijoin/semijoin/query/Position")], returnType := none }, accessFlags := 1, code := some k3c0 }
def k3c1 : Code := { maxStack := 1, maxLocals := 1, code := prog_74_method_4_code, exceptionTable := #[], attributes := #[] }
def k3m1 : Method := { name := "getPosition", desc := "()Lcom/example/semijoin/semijoin/query/Position;", sig := { parameters := [], returnType := some (.object "com/example/semijoin/semijoin/query/Position") }, accessFlags := 1, code := some k3c1 }
/-- com/example/semijoin/semijoin/query/Identifier -/
def k3 : Class := { plain "com/example/semijoin/semijoin/query/Identifier" (some 0) with
  accessFlags := 49
  interfaces := #[]
  cf := some (fileOf pool3 8 #[] #[{ accessFlags := 1, nameIndex := 5, descriptorIndex := 43, attributes := #[] }, { accessFlags := 1, nameIndex := 50, descriptorIndex := 51, attributes := #[] }] 49 2 #[] #[{ accessFlags := 18, nameIndex := 11, descriptorIndex := 12, attributes := #[] }, { accessFlags := 18, nameIndex := 15, descriptorIndex := 16, attributes := #[] }, { accessFlags := 18, nameIndex := 19, descriptorIndex := 20, attributes := #[] }])
  fields := #[{ name := "text", type := (.object "java/lang/String"), accessFlags := 18, slot := 0, constantValue := 0 }, { name := "quoted", type := .boolean, accessFlags := 18, slot := 1, constantValue := 0 }, { name := "position", type := (.object "com/example/semijoin/semijoin/query/Position"), accessFlags := 18, slot := 2, constantValue := 0 }]
  methods := #[k3m0, k3m1]
  instanceTypes := #[(.object "java/lang/String"), .boolean, (.object "com/example/semijoin/semijoin/query/Position")]
  staticTypes := #[]
  resolved := Array.replicate 73 none
  statics := none }

def pool4 : Array CpInfo := pool [(1, .class_ 2), (0, u "java/io/Serializable"), (0, .class_ 4), (0, u "java/lang/Object")] 2

/-- java/io/Serializable -/
def k4 : Class := { plain "java/io/Serializable" (some 0) with
  accessFlags := 1537
  interfaces := #[]
  cf := some (fileOf pool4 1 #[] #[] 1537 3 #[] #[])
  fields := #[]
  methods := #[]
  instanceTypes := #[]
  staticTypes := #[]
  resolved := Array.replicate 7 none
  statics := none }

def pool5 : Array CpInfo := pool [(1, .class_ 2), (0, u "java/lang/Comparable"), (0, .class_ 4), (0, u "java/lang/Object")] 7

/-- java/lang/Comparable -/
def k5 : Class := { plain "java/lang/Comparable" (some 0) with
  accessFlags := 1537
  interfaces := #[]
  cf := some (fileOf pool5 1 #[] #[] 1537 3 #[] #[])
  fields := #[]
  methods := #[]
  instanceTypes := #[]
  staticTypes := #[]
  resolved := Array.replicate 12 none
  statics := none }

def pool6 : Array CpInfo := pool [(2, .class_ 4), (1, u "java/lang/CharSequence"), (42, .class_ 48), (0, u "java/lang/CharSequence$1CodePointIterator"), (10, .class_ 60), (0, u "java/lang/CharSequence$1CharIterator"), (5, .class_ 67), (0, u "java/lang/Object")] 63

/-- java/lang/CharSequence -/
def k6 : Class := { plain "java/lang/CharSequence" (some 0) with
  accessFlags := 1537
  interfaces := #[]
  cf := some (fileOf pool6 2 #[.nestMembers #[47, 59]] #[] 1537 66 #[] #[])
  fields := #[]
  methods := #[]
  instanceTypes := #[]
  staticTypes := #[]
  resolved := Array.replicate 131 none
  statics := none }

def pool7 : Array CpInfo := pool [(1, .class_ 2), (0, u "java/lang/constant/Constable"), (0, .class_ 4), (0, u "java/lang/Object")] 6

/-- java/lang/constant/Constable -/
def k7 : Class := { plain "java/lang/constant/Constable" (some 0) with
  accessFlags := 1537
  interfaces := #[]
  cf := some (fileOf pool7 1 #[] #[] 1537 3 #[] #[])
  fields := #[]
  methods := #[]
  instanceTypes := #[]
  staticTypes := #[]
  resolved := Array.replicate 11 none
  statics := none }

def pool8 : Array CpInfo := pool [(1, .class_ 2), (0, u "java/lang/constant/ConstantDesc"), (0, .class_ 4), (0, u "java/lang/Object")] 32

/-- java/lang/constant/ConstantDesc -/
def k8 : Class := { plain "java/lang/constant/ConstantDesc" (some 0) with
  accessFlags := 1537
  interfaces := #[]
  cf := some (fileOf pool8 1 #[] #[] 1537 3 #[] #[])
  fields := #[]
  methods := #[]
  instanceTypes := #[]
  staticTypes := #[]
  resolved := Array.replicate 37 none
  statics := none }

def pool9 : Array CpInfo := pool [(1, .methodref 2 3), (0, .class_ 4), (0, .nameAndType 5 6), (0, u "java/lang/Object"), (0, u "<init>"), (0, u "()V"), (2, .fieldref 10 11), (0, .class_ 12), (0, .nameAndType 13 14), (0, u "java/lang/String"), (0, u "value"), (0, u "[B"), (0, .fieldref 10 16), (0, .nameAndType 17 18), (0, u "coder"), (0, u "B"), (2, u "hash"), (0, u "I"), (2, u "hashIsZero"), (0, u "Z"), (11, .fieldref 10 39), (0, .nameAndType 40 26), (0, u "COMPACT_STRINGS"), (12, u "toBytes"), (53, .class_ 109), (1, u "java/lang/StringLatin1"), (99, .methodref 10 210), (0, .nameAndType 5 211), (0, u "([BB)V"), (157, u "(C)Z"), (205, .class_ 576), (0, u "java/lang/CharSequence"), (22, u "CASE_INSENSITIVE_ORDER"), (0, u "Ljava/util/Comparator;"), (181, u "valueOf"), (0, u "(C)Ljava/lang/String;"), (231, .methodref 107 1016), (0, .nameAndType 1017 369), (0, u "canEncode"), (0, .methodref 107 1019), (0, .nameAndType 53 1020), (0, u "(C)[B"), (80, u "serialPersistentFields"), (0, u "[Ljava/io/ObjectStreamField;"), (0, .class_ 1104), (0, u "java/lang/String$CaseInsensitiveComparator"), (1, .class_ 1107), (0, u "java/io/Serializable"), (0, .class_ 1109), (0, u "java/lang/Comparable"), (0, .class_ 1111), (0, u "java/lang/constant/Constable"), (0, .class_ 1113), (0, u "java/lang/constant/ConstantDesc"), (2, u "serialVersionUID"), (0, u "J"), (3, u "REPL"), (0, u "C"), (2, u "LATIN1"), (1, u "UTF16")] 323

def k9m0 : Method := { name := "<init>", desc := "()V", sig := { parameters := [], returnType := none }, accessFlags := 1, code := none }
def k9c1 : Code := { maxStack := 4, maxLocals := 1, code := jdk_42_method_139_code, exceptionTable := #[], attributes := #[] }
def k9m1 : Method := { name := "valueOf", desc := "(C)Ljava/lang/String;", sig := { parameters := [.char], returnType := some (.object "java/lang/String") }, accessFlags := 9, code := some k9c1 }
def k9c2 : Code := { maxStack := 2, maxLocals := 3, code := jdk_42_method_151_code, exceptionTable := #[], attributes := #[] }
def k9m2 : Method := { name := "<init>", desc := "([BB)V", sig := { parameters := [(.array .byte), .byte], returnType := none }, accessFlags := 0, code := some k9c2 }
/-- java/lang/String -/
def k9 : Class := { plain "java/lang/String" (some 0) with
  accessFlags := 49
  interfaces := #[4, 5, 6, 7, 8]
  cf := some (fileOf pool9 10 #[.nestMembers #[1103]] #[{ accessFlags := 1, nameIndex := 5, descriptorIndex := 6, attributes := #[] }, { accessFlags := 9, nameIndex := 782, descriptorIndex := 783, attributes := #[] }, { accessFlags := 0, nameIndex := 5, descriptorIndex := 211, attributes := #[] }] 49 2 #[1106, 1108, 575, 1110, 1112] #[{ accessFlags := 18, nameIndex := 13, descriptorIndex := 14, attributes := #[] }, { accessFlags := 18, nameIndex := 17, descriptorIndex := 18, attributes := #[] }, { accessFlags := 2, nameIndex := 21, descriptorIndex := 22, attributes := #[] }, { accessFlags := 2, nameIndex := 25, descriptorIndex := 26, attributes := #[] }, { accessFlags := 26, nameIndex := 1116, descriptorIndex := 1117, attributes := #[] }, { accessFlags := 24, nameIndex := 40, descriptorIndex := 26, attributes := #[] }, { accessFlags := 26, nameIndex := 1101, descriptorIndex := 1102, attributes := #[] }, { accessFlags := 26, nameIndex := 1121, descriptorIndex := 1122, attributes := #[] }, { accessFlags := 25, nameIndex := 599, descriptorIndex := 600, attributes := #[] }, { accessFlags := 24, nameIndex := 1125, descriptorIndex := 18, attributes := #[] }, { accessFlags := 24, nameIndex := 1127, descriptorIndex := 18, attributes := #[] }])
  fields := #[{ name := "value", type := (.array .byte), accessFlags := 18, slot := 0, constantValue := 0 }, { name := "coder", type := .byte, accessFlags := 18, slot := 1, constantValue := 0 }, { name := "hash", type := .int, accessFlags := 2, slot := 2, constantValue := 0 }, { name := "hashIsZero", type := .boolean, accessFlags := 2, slot := 3, constantValue := 0 }, { name := "serialVersionUID", type := .long, accessFlags := 26, slot := 0, constantValue := 0 }, { name := "COMPACT_STRINGS", type := .boolean, accessFlags := 24, slot := 1, constantValue := 0 }, { name := "serialPersistentFields", type := (.array (.object "java/io/ObjectStreamField")), accessFlags := 26, slot := 2, constantValue := 0 }, { name := "REPL", type := .char, accessFlags := 26, slot := 3, constantValue := 0 }, { name := "CASE_INSENSITIVE_ORDER", type := (.object "java/util/Comparator"), accessFlags := 25, slot := 4, constantValue := 0 }, { name := "LATIN1", type := .byte, accessFlags := 24, slot := 5, constantValue := 0 }, { name := "UTF16", type := .byte, accessFlags := 24, slot := 6, constantValue := 0 }]
  methods := #[k9m0, k9m1, k9m2]
  instanceTypes := #[(.array .byte), .byte, .int, .boolean]
  staticTypes := #[.long, .boolean, (.array (.object "java/io/ObjectStreamField")), .char, (.object "java/util/Comparator"), .byte, .byte]
  resolved := Array.replicate 1451 none
  statics := some 0 }

def pool10 : Array CpInfo := pool [(4, .class_ 6), (1, u "java/lang/Object"), (0, u "<init>"), (0, u "()V"), (5, .class_ 16), (1, u "java/lang/StringLatin1"), (73, u "canEncode"), (14, u "(C)Z"), (15, u "$assertionsDisabled"), (0, u "Z"), (98, .class_ 223), (1, u "java/lang/StringLatin1$LinesSpliterator"), (156, u "toBytes"), (1, u "(C)[B"), (7, .class_ 391), (0, u "java/lang/StringLatin1$CharsSpliterator")] 3

def k10m0 : Method := { name := "<init>", desc := "()V", sig := { parameters := [], returnType := none }, accessFlags := 0, code := none }
def k10c1 : Code := { maxStack := 2, maxLocals := 1, code := jdk_43_method_3_code, exceptionTable := #[], attributes := #[] }
def k10m1 : Method := { name := "canEncode", desc := "(C)Z", sig := { parameters := [.char], returnType := some .boolean }, accessFlags := 9, code := some k10c1 }
def k10c2 : Code := { maxStack := 4, maxLocals := 1, code := jdk_43_method_46_code, exceptionTable := #[], attributes := #[] }
def k10m2 : Method := { name := "toBytes", desc := "(C)[B", sig := { parameters := [.char], returnType := some (.array .byte) }, accessFlags := 9, code := some k10c2 }
/-- java/lang/StringLatin1 -/
def k10 : Class := { plain "java/lang/StringLatin1" (some 0) with
  accessFlags := 48
  interfaces := #[]
  cf := some (fileOf pool10 14 #[.nestMembers #[390, 221]] #[{ accessFlags := 0, nameIndex := 7, descriptorIndex := 8, attributes := #[] }, { accessFlags := 9, nameIndex := 90, descriptorIndex := 105, attributes := #[] }, { accessFlags := 9, nameIndex := 380, descriptorIndex := 382, attributes := #[] }] 48 4 #[] #[{ accessFlags := 4120, nameIndex := 121, descriptorIndex := 122, attributes := #[] }])
  fields := #[{ name := "$assertionsDisabled", type := .boolean, accessFlags := 4120, slot := 0, constantValue := 0 }]
  methods := #[k10m0, k10m1, k10m2]
  instanceTypes := #[]
  staticTypes := #[.boolean]
  resolved := Array.replicate 395 none
  statics := none }

def pool11 : Array CpInfo := pool [(1, .class_ 2), (0, u "com/example/semijoin/semijoin/query/Expression"), (0, .class_ 4), (0, u "java/lang/Object")] 4

/-- com/example/semijoin/semijoin/query/Expression -/
def k11 : Class := { plain "com/example/semijoin/semijoin/query/Expression" (some 0) with
  accessFlags := 1537
  interfaces := #[]
  cf := some (fileOf pool11 1 #[] #[] 1537 3 #[] #[])
  fields := #[]
  methods := #[]
  instanceTypes := #[]
  staticTypes := #[]
  resolved := Array.replicate 9 none
  statics := none }

def pool12 : Array CpInfo := pool [(2, .class_ 4), (1, u "com/example/semijoin/semijoin/query/ColumnRef"), (0, u "<init>"), (0, u "(Lcom/example/semijoin/semijoin/query/Identifier;Lcom/example/semijoin/semijoin/query/Identifier;Lcom/example/semijoin/semijoin/query/Identifier;)V"), (0, .methodref 8 9), (0, .class_ 10), (0, .nameAndType 5 11), (0, u "java/lang/Object"), (0, u "()V"), (0, .fieldref 2 13), (0, .nameAndType 14 15), (0, u "schema"), (0, u "Lcom/example/semijoin/semijoin/query/Identifier;"), (0, .fieldref 2 17), (0, .nameAndType 18 15), (0, u "qualifier"), (0, .fieldref 2 20), (0, .nameAndType 21 15), (0, u "name"), (0, .methodref 23 24), (0, .class_ 25), (0, .nameAndType 26 27), (0, u "com/example/semijoin/semijoin/query/Identifier"), (0, u "getPosition"), (0, u "()Lcom/example/semijoin/semijoin/query/Position;"), (17, .class_ 46), (0, u "com/example/semijoin/semijoin/query/Expression")] 29

def k12c0 : Code := { maxStack := 2, maxLocals := 4, code := prog_65_method_2_code, exceptionTable := #[], attributes := #[] }
def k12m0 : Method := { name := "<init>", desc := "(Lcom/example/semijoin/semijoin/query/Identifier;Lcom/example/semijoin/semijoin/query/Identifier;Lcom/example/semijoin/semijoin/query/Identifier;)V", sig := { parameters := [(.object "com/example/semijoin/semijoin/query/Identifier"), (.object "com/example/semijoin/semijoin/query/Identifier"), (.object "com/example/semijoin/semijoin/query/Identifier")], returnType := none }, accessFlags := 1, code := some k12c0 }
def k12c1 : Code := { maxStack := 1, maxLocals := 2, code := prog_65_method_6_code, exceptionTable := #[], attributes := #[] }
def k12m1 : Method := { name := "getPosition", desc := "()Lcom/example/semijoin/semijoin/query/Position;", sig := { parameters := [], returnType := some (.object "com/example/semijoin/semijoin/query/Position") }, accessFlags := 1, code := some k12c1 }
/-- com/example/semijoin/semijoin/query/ColumnRef -/
def k12 : Class := { plain "com/example/semijoin/semijoin/query/ColumnRef" (some 0) with
  accessFlags := 49
  interfaces := #[11]
  cf := some (fileOf pool12 2 #[] #[{ accessFlags := 1, nameIndex := 5, descriptorIndex := 6, attributes := #[] }, { accessFlags := 1, nameIndex := 26, descriptorIndex := 27, attributes := #[] }] 49 8 #[45] #[{ accessFlags := 18, nameIndex := 14, descriptorIndex := 15, attributes := #[] }, { accessFlags := 18, nameIndex := 18, descriptorIndex := 15, attributes := #[] }, { accessFlags := 18, nameIndex := 21, descriptorIndex := 15, attributes := #[] }])
  fields := #[{ name := "schema", type := (.object "com/example/semijoin/semijoin/query/Identifier"), accessFlags := 18, slot := 0, constantValue := 0 }, { name := "qualifier", type := (.object "com/example/semijoin/semijoin/query/Identifier"), accessFlags := 18, slot := 1, constantValue := 0 }, { name := "name", type := (.object "com/example/semijoin/semijoin/query/Identifier"), accessFlags := 18, slot := 2, constantValue := 0 }]
  methods := #[k12m0, k12m1]
  instanceTypes := #[(.object "com/example/semijoin/semijoin/query/Identifier"), (.object "com/example/semijoin/semijoin/query/Identifier"), (.object "com/example/semijoin/semijoin/query/Identifier")]
  staticTypes := #[]
  resolved := Array.replicate 76 none
  statics := none }

def pool13 : Array CpInfo := pool [(2, .class_ 4), (1, u "java/lang/Object"), (0, u "<init>"), (0, u "()V"), (17, .class_ 26), (1, u "jdk/internal/util/Preconditions"), (28, .class_ 56), (0, u "jdk/internal/util/Preconditions$4"), (57, .class_ 115), (0, u "jdk/internal/util/Preconditions$1"), (7, u "SIOOBE_FORMATTER"), (0, u "Ljava/util/function/BiFunction;"), (0, .class_ 126), (0, u "jdk/internal/util/Preconditions$2"), (3, u "AIOOBE_FORMATTER"), (0, .class_ 132), (0, u "jdk/internal/util/Preconditions$3"), (3, u "IOOBE_FORMATTER")] 57

def k13m0 : Method := { name := "<init>", desc := "()V", sig := { parameters := [], returnType := none }, accessFlags := 1, code := none }
/-- jdk/internal/util/Preconditions -/
def k13 : Class := { plain "jdk/internal/util/Preconditions" (some 0) with
  accessFlags := 33
  interfaces := #[]
  cf := some (fileOf pool13 24 #[.nestMembers #[55, 131, 125, 114]] #[{ accessFlags := 1, nameIndex := 5, descriptorIndex := 6, attributes := #[] }] 33 2 #[] #[{ accessFlags := 25, nameIndex := 123, descriptorIndex := 124, attributes := #[] }, { accessFlags := 25, nameIndex := 130, descriptorIndex := 124, attributes := #[] }, { accessFlags := 25, nameIndex := 136, descriptorIndex := 124, attributes := #[] }])
  fields := #[{ name := "SIOOBE_FORMATTER", type := (.object "java/util/function/BiFunction"), accessFlags := 25, slot := 0, constantValue := 0 }, { name := "AIOOBE_FORMATTER", type := (.object "java/util/function/BiFunction"), accessFlags := 25, slot := 1, constantValue := 0 }, { name := "IOOBE_FORMATTER", type := (.object "java/util/function/BiFunction"), accessFlags := 25, slot := 2, constantValue := 0 }]
  methods := #[k13m0]
  instanceTypes := #[]
  staticTypes := #[(.object "java/util/function/BiFunction"), (.object "java/util/function/BiFunction"), (.object "java/util/function/BiFunction")]
  resolved := Array.replicate 194 none
  statics := some 1 }

def pool14 : Array CpInfo := pool [(9, u "<init>"), (6, .class_ 18), (1, u "java/lang/Object"), (0, u "()V"), (1, .class_ 23), (1, u "jdk/internal/util/ArraysSupport"), (0, u "LOG2_ARRAY_LONG_INDEX_SCALE"), (0, u "I"), (2, u "U"), (0, u "Ljdk/internal/misc/Unsafe;"), (8, u "BIG_ENDIAN"), (0, u "Z"), (8, u "LOG2_BYTE_BIT_SIZE"), (4, u "LOG2_ARRAY_INT_INDEX_SCALE"), (54, u "JLA"), (0, u "Ljdk/internal/access/JavaLangAccess;"), (11, u "LOG2_ARRAY_BOOLEAN_INDEX_SCALE"), (9, u "LOG2_ARRAY_BYTE_INDEX_SCALE"), (5, u "LOG2_ARRAY_CHAR_INDEX_SCALE"), (5, u "LOG2_ARRAY_SHORT_INDEX_SCALE"), (18, u "LOG2_ARRAY_FLOAT_INDEX_SCALE"), (24, u "LOG2_ARRAY_DOUBLE_INDEX_SCALE"), (89, u "T_BOOLEAN"), (2, u "T_CHAR"), (1, u "T_FLOAT"), (1, u "T_DOUBLE"), (1, u "T_BYTE"), (1, u "T_SHORT"), (1, u "T_INT"), (1, u "T_LONG"), (1, u "SOFT_MAX_ARRAY_LENGTH")] 83

def k14m0 : Method := { name := "<init>", desc := "()V", sig := { parameters := [], returnType := none }, accessFlags := 2, code := none }
/-- jdk/internal/util/ArraysSupport -/
def k14 : Class := { plain "jdk/internal/util/ArraysSupport" (some 0) with
  accessFlags := 33
  interfaces := #[]
  cf := some (fileOf pool14 21 #[] #[{ accessFlags := 2, nameIndex := 9, descriptorIndex := 19, attributes := #[] }] 33 16 #[] #[{ accessFlags := 24, nameIndex := 28, descriptorIndex := 29, attributes := #[] }, { accessFlags := 26, nameIndex := 38, descriptorIndex := 39, attributes := #[] }, { accessFlags := 25, nameIndex := 121, descriptorIndex := 25, attributes := #[] }, { accessFlags := 25, nameIndex := 131, descriptorIndex := 25, attributes := #[] }, { accessFlags := 25, nameIndex := 137, descriptorIndex := 25, attributes := #[] }, { accessFlags := 25, nameIndex := 143, descriptorIndex := 25, attributes := #[] }, { accessFlags := 25, nameIndex := 53, descriptorIndex := 25, attributes := #[] }, { accessFlags := 25, nameIndex := 24, descriptorIndex := 25, attributes := #[] }, { accessFlags := 25, nameIndex := 162, descriptorIndex := 25, attributes := #[] }, { accessFlags := 25, nameIndex := 187, descriptorIndex := 25, attributes := #[] }, { accessFlags := 26, nameIndex := 48, descriptorIndex := 25, attributes := #[] }, { accessFlags := 25, nameIndex := 277, descriptorIndex := 25, attributes := #[] }, { accessFlags := 25, nameIndex := 280, descriptorIndex := 25, attributes := #[] }, { accessFlags := 25, nameIndex := 282, descriptorIndex := 25, attributes := #[] }, { accessFlags := 25, nameIndex := 284, descriptorIndex := 25, attributes := #[] }, { accessFlags := 25, nameIndex := 286, descriptorIndex := 25, attributes := #[] }, { accessFlags := 25, nameIndex := 288, descriptorIndex := 25, attributes := #[] }, { accessFlags := 25, nameIndex := 290, descriptorIndex := 25, attributes := #[] }, { accessFlags := 25, nameIndex := 292, descriptorIndex := 25, attributes := #[] }, { accessFlags := 26, nameIndex := 108, descriptorIndex := 109, attributes := #[] }, { accessFlags := 25, nameIndex := 294, descriptorIndex := 25, attributes := #[] }])
  fields := #[{ name := "U", type := (.object "jdk/internal/misc/Unsafe"), accessFlags := 24, slot := 0, constantValue := 0 }, { name := "BIG_ENDIAN", type := .boolean, accessFlags := 26, slot := 1, constantValue := 0 }, { name := "LOG2_ARRAY_BOOLEAN_INDEX_SCALE", type := .int, accessFlags := 25, slot := 2, constantValue := 0 }, { name := "LOG2_ARRAY_BYTE_INDEX_SCALE", type := .int, accessFlags := 25, slot := 3, constantValue := 0 }, { name := "LOG2_ARRAY_CHAR_INDEX_SCALE", type := .int, accessFlags := 25, slot := 4, constantValue := 0 }, { name := "LOG2_ARRAY_SHORT_INDEX_SCALE", type := .int, accessFlags := 25, slot := 5, constantValue := 0 }, { name := "LOG2_ARRAY_INT_INDEX_SCALE", type := .int, accessFlags := 25, slot := 6, constantValue := 0 }, { name := "LOG2_ARRAY_LONG_INDEX_SCALE", type := .int, accessFlags := 25, slot := 7, constantValue := 0 }, { name := "LOG2_ARRAY_FLOAT_INDEX_SCALE", type := .int, accessFlags := 25, slot := 8, constantValue := 0 }, { name := "LOG2_ARRAY_DOUBLE_INDEX_SCALE", type := .int, accessFlags := 25, slot := 9, constantValue := 0 }, { name := "LOG2_BYTE_BIT_SIZE", type := .int, accessFlags := 26, slot := 10, constantValue := 0 }, { name := "T_BOOLEAN", type := .int, accessFlags := 25, slot := 11, constantValue := 0 }, { name := "T_CHAR", type := .int, accessFlags := 25, slot := 12, constantValue := 0 }, { name := "T_FLOAT", type := .int, accessFlags := 25, slot := 13, constantValue := 0 }, { name := "T_DOUBLE", type := .int, accessFlags := 25, slot := 14, constantValue := 0 }, { name := "T_BYTE", type := .int, accessFlags := 25, slot := 15, constantValue := 0 }, { name := "T_SHORT", type := .int, accessFlags := 25, slot := 16, constantValue := 0 }, { name := "T_INT", type := .int, accessFlags := 25, slot := 17, constantValue := 0 }, { name := "T_LONG", type := .int, accessFlags := 25, slot := 18, constantValue := 0 }, { name := "JLA", type := (.object "jdk/internal/access/JavaLangAccess"), accessFlags := 26, slot := 19, constantValue := 0 }, { name := "SOFT_MAX_ARRAY_LENGTH", type := .int, accessFlags := 25, slot := 20, constantValue := 0 }]
  methods := #[k14m0]
  instanceTypes := #[]
  staticTypes := #[(.object "jdk/internal/misc/Unsafe"), .boolean, .int, .int, .int, .int, .int, .int, .int, .int, .int, .int, .int, .int, .int, .int, .int, .int, .int, (.object "jdk/internal/access/JavaLangAccess"), .int]
  resolved := Array.replicate 378 none
  statics := none }

def pool15 : Array CpInfo := pool [(1, u "java/lang/Cloneable"), (0, .class_ 1), (0, u "java/lang/Object"), (0, .class_ 3)] 3

/-- java/lang/Cloneable -/
def k15 : Class := { plain "java/lang/Cloneable" (some 0) with
  accessFlags := 1537
  interfaces := #[]
  cf := some (fileOf pool15 2 #[] #[] 1537 4 #[] #[])
  fields := #[]
  methods := #[]
  instanceTypes := #[]
  staticTypes := #[]
  resolved := Array.replicate 8 none
  statics := none }

/-- the primitive byte -/
def k16 : Class := { plain "byte" none with kind := .primitive 'B', accessFlags := 0x411 }
/-- [B -/
def k17 : Class := { plain "[B" (some 0) with kind := .array 16 .byte, interfaces := #[15, 4], accessFlags := 1041 }

/-- the primitive int -/
def k18 : Class := { plain "int" none with kind := .primitive 'I', accessFlags := 0x411 }
/-- [I -/
def k19 : Class := { plain "[I" (some 0) with kind := .array 18 .int, interfaces := #[15, 4], accessFlags := 1041 }

def heap : Heap := #[{ cls := 9, slots := #[.long 0, .int 1, .null, .int 0, .null, .int 0, .int 0], vm := .statics 9 },
  { cls := 13, slots := #[.null, .null, .null], vm := .statics 13 }]
def classes : Array Class := #[k0, k1, k2, k3, k4, k5, k6, k7, k8, k9, k10, k11, k12, k13, k14, k15, k16, k17, k18, k19]
def interned : List (Array UInt16 × Addr) := []
def slotsUsed : Nat := 10
def theMethod : MethodId := ⟨1, 1⟩
def args0 : Array Value := #[.int 31, .int 1, .int 2, .int 3, .int 4, .long 5]
def aboutOver (below : List Frame) : State where
  vm := { classes := classes, interned := interned.toArray }
  heap := heap
  slotsUsed := slotsUsed
  threads := #[{ frames := .invoking theMethod args0 :: below }]
def below0 : List Frame := [.native { method := ⟨0, 0⟩, args := #[] }]
def about1 : State := aboutOver below0
def p0 : Program := .bare "" "" ""
def e0 : Env := launch0.env 0 0 0
theorem w_frames : about1.frames = Frame.invoking theMethod args0 :: below0 := rfl
set_option maxRecDepth 65536 in
theorem w_args : argsFit about1.vm theMethod args0 = true := by decide +kernel
set_option maxRecDepth 65536 in
theorem w_heap : heapFits about1 = true := by decide +kernel
set_option maxRecDepth 65536 in
theorem w_runnable : about1.curStatus? = some .runnable := by decide +kernel
set_option maxRecDepth 65536 in
theorem w_alone : about1.alone = true := by decide +kernel
set_option maxRecDepth 65536 in
theorem w_named : about1.methodNamed? x = some theMethod := by decide +kernel
set_option maxRecDepth 65536 in
theorem w_hears : about1.hears theMethod below0 = true := by decide +kernel
set_option maxRecDepth 65536 in
theorem w_ripe : about1.ripe theMethod args0 below0 = true := by decide +kernel
theorem w_running : about1.status = .running := rfl
set_option maxRecDepth 65536 in
theorem w_room : about1.hasRoom e0.platform room_1 = true :=
  launch0.hasRoom_least _ room_1 (by decide +kernel) (by decide +kernel) (by decide +kernel) (by decide +kernel) (by decide +kernel) (by decide +kernel)
theorem allAtoms_all (ts : List Jvm.Cond) (a : Array Jvm.Value) (st : Jvm.State) : (allAtoms ts).before a st = ts.all (fun c => c.before a st) := by
  induction ts with
  | nil => rfl
  | cons c t ih =>
    show (Jvm.Cond.and c (allAtoms t)).before a st = _
    rw [Jvm.Cond.before_and, ih, List.all_cons]
def words1 : List Jvm.Cond := Jvm.Cond.code x code maxLocals ret :: tables_1
/-- a 'code' word, met by the world's own term for the bytes: nothing is compared byte by byte -/
theorem code_word {y : MethodName} {bytes : ByteArray} {mx : Nat} {rt : Option FieldType} {a : Array Value} {s : State} {m : MethodId} {meth : Method} {c : Code} (h1 : s.methodNamed? y = some m) (h2 : s.vm.method? m = some meth) (h3 : meth.code = some c) (h4 : c.code = bytes)
    (h5 : (c.maxLocals == mx && c.exceptionTable.isEmpty && decide (c.maxStack ≤ mostOperands) && decide (meth.sig.returnType = rt) && !meth.locks && decide (parseMethodDescriptor y.desc = some meth.sig)) = true) : (Jvm.Cond.code y bytes mx rt).before a s = true := by
  simp only [Bool.and_eq_true, beq_iff_eq, Bool.not_eq_true', decide_eq_true_eq] at h5
  obtain ⟨⟨⟨⟨⟨g1, g2⟩, g3⟩, g4⟩, g5⟩, g6⟩ := h5
  simp [Cond.before, Cond.holds, Cond.value, h1, h2, h3, h4, g1, g2, g3, g4, g5, g6]
def isCode : Jvm.Cond → Bool
  | .code _ _ _ _ => true
  | _ => false
theorem all_split {L : List Jvm.Cond} {P : Jvm.Cond → Bool} (h1 : L.all (fun c => isCode c || P c) = true) (h2 : ∀ c ∈ L.filter isCode, P c = true) : L.all P = true := by
  refine List.all_eq_true.mpr fun c hc => ?_
  have h := List.all_eq_true.mp h1 c hc
  rcases Bool.eq_false_or_eq_true (isCode c) with hi | hi
  · exact h2 c (List.mem_filter.mpr ⟨hc, hi⟩)
  · simpa [hi] using h
set_option maxRecDepth 65536 in
theorem w_c0 : (Jvm.Cond.code x code maxLocals ret).before args0 about1 = true := code_word (m := ⟨1, 1⟩) (meth := k1m1) (c := k1c1) (by decide +kernel) rfl rfl rfl (by decide +kernel)
set_option maxRecDepth 65536 in
theorem w_c1 : (Jvm.Cond.code ({ cls := "com/example/semijoin/semijoin/query/Position", name := "<init>", desc := "(II)V" } : Jvm.MethodName) prog_88_method_1_code (3 : Nat) (Option.none : Option Jvm.ClassFile.FieldType)).before args0 about1 = true := code_word (m := ⟨2, 0⟩) (meth := k2m0) (c := k2c0) (by decide +kernel) rfl rfl rfl (by decide +kernel)
set_option maxRecDepth 65536 in
theorem w_c2 : (Jvm.Cond.code ({ cls := "com/example/semijoin/semijoin/query/Position", name := "<init>", desc := "(IILjava/lang/String;)V" } : Jvm.MethodName) prog_88_method_2_code (4 : Nat) (Option.none : Option Jvm.ClassFile.FieldType)).before args0 about1 = true := code_word (m := ⟨2, 1⟩) (meth := k2m1) (c := k2c1) (by decide +kernel) rfl rfl rfl (by decide +kernel)
set_option maxRecDepth 65536 in
theorem w_c3 : (Jvm.Cond.code ({ cls := "java/lang/Object", name := "<init>", desc := "()V" } : Jvm.MethodName) object_method_1_code (1 : Nat) (Option.none : Option Jvm.ClassFile.FieldType)).before args0 about1 = true := code_word (m := ⟨0, 0⟩) (meth := k0m0) (c := k0c0) (by decide +kernel) rfl rfl rfl (by decide +kernel)
set_option maxRecDepth 65536 in
theorem w_c4 : (Jvm.Cond.code ({ cls := "java/lang/String", name := "valueOf", desc := "(C)Ljava/lang/String;" } : Jvm.MethodName) jdk_42_method_139_code (1 : Nat) (Option.some (Jvm.ClassFile.FieldType.object "java/lang/String"))).before args0 about1 = true := code_word (m := ⟨9, 1⟩) (meth := k9m1) (c := k9c1) (by decide +kernel) rfl rfl rfl (by decide +kernel)
set_option maxRecDepth 65536 in
theorem w_c5 : (Jvm.Cond.code ({ cls := "java/lang/StringLatin1", name := "canEncode", desc := "(C)Z" } : Jvm.MethodName) jdk_43_method_3_code (1 : Nat) (Option.some Jvm.ClassFile.FieldType.boolean)).before args0 about1 = true := code_word (m := ⟨10, 1⟩) (meth := k10m1) (c := k10c1) (by decide +kernel) rfl rfl rfl (by decide +kernel)
set_option maxRecDepth 65536 in
theorem w_c6 : (Jvm.Cond.code ({ cls := "java/lang/StringLatin1", name := "toBytes", desc := "(C)[B" } : Jvm.MethodName) jdk_43_method_46_code (1 : Nat) (Option.some (Jvm.ClassFile.FieldType.array Jvm.ClassFile.FieldType.byte))).before args0 about1 = true := code_word (m := ⟨10, 2⟩) (meth := k10m2) (c := k10c2) (by decide +kernel) rfl rfl rfl (by decide +kernel)
set_option maxRecDepth 65536 in
theorem w_c7 : (Jvm.Cond.code ({ cls := "java/lang/String", name := "<init>", desc := "([BB)V" } : Jvm.MethodName) jdk_42_method_151_code (3 : Nat) (Option.none : Option Jvm.ClassFile.FieldType)).before args0 about1 = true := code_word (m := ⟨9, 2⟩) (meth := k9m2) (c := k9c2) (by decide +kernel) rfl rfl rfl (by decide +kernel)
set_option maxRecDepth 65536 in
theorem w_c8 : (Jvm.Cond.code ({ cls := "com/example/semijoin/semijoin/query/Identifier", name := "<init>", desc := "(Ljava/lang/String;ZLcom/example/semijoin/semijoin/query/Position;)V" } : Jvm.MethodName) prog_74_method_1_code (4 : Nat) (Option.none : Option Jvm.ClassFile.FieldType)).before args0 about1 = true := code_word (m := ⟨3, 0⟩) (meth := k3m0) (c := k3c0) (by decide +kernel) rfl rfl rfl (by decide +kernel)
set_option maxRecDepth 65536 in
theorem w_c9 : (Jvm.Cond.code ({ cls := "com/example/semijoin/semijoin/query/ColumnRef", name := "<init>", desc := "(Lcom/example/semijoin/semijoin/query/Identifier;Lcom/example/semijoin/semijoin/query/Identifier;Lcom/example/semijoin/semijoin/query/Identifier;)V" } : Jvm.MethodName) prog_65_method_2_code (4 : Nat) (Option.none : Option Jvm.ClassFile.FieldType)).before args0 about1 = true := code_word (m := ⟨12, 0⟩) (meth := k12m0) (c := k12c0) (by decide +kernel) rfl rfl rfl (by decide +kernel)
set_option maxRecDepth 65536 in
theorem w_c10 : (Jvm.Cond.code ({ cls := "com/example/semijoin/semijoin/query/ColumnRef", name := "getPosition", desc := "()Lcom/example/semijoin/semijoin/query/Position;" } : Jvm.MethodName) prog_65_method_6_code (2 : Nat) (Option.some (Jvm.ClassFile.FieldType.object "com/example/semijoin/semijoin/query/Position"))).before args0 about1 = true := code_word (m := ⟨12, 1⟩) (meth := k12m1) (c := k12c1) (by decide +kernel) rfl rfl rfl (by decide +kernel)
set_option maxRecDepth 65536 in
theorem w_c11 : (Jvm.Cond.code ({ cls := "com/example/semijoin/semijoin/query/Identifier", name := "getPosition", desc := "()Lcom/example/semijoin/semijoin/query/Position;" } : Jvm.MethodName) prog_74_method_4_code (1 : Nat) (Option.some (Jvm.ClassFile.FieldType.object "com/example/semijoin/semijoin/query/Position"))).before args0 about1 = true := code_word (m := ⟨3, 1⟩) (meth := k3m1) (c := k3c1) (by decide +kernel) rfl rfl rfl (by decide +kernel)
def codes1 : List Jvm.Cond := [Jvm.Cond.code x code maxLocals ret, Jvm.Cond.code ({ cls := "com/example/semijoin/semijoin/query/Position", name := "<init>", desc := "(II)V" } : Jvm.MethodName) prog_88_method_1_code (3 : Nat) (Option.none : Option Jvm.ClassFile.FieldType), Jvm.Cond.code ({ cls := "com/example/semijoin/semijoin/query/Position", name := "<init>", desc := "(IILjava/lang/String;)V" } : Jvm.MethodName) prog_88_method_2_code (4 : Nat) (Option.none : Option Jvm.ClassFile.FieldType), Jvm.Cond.code ({ cls := "java/lang/Object", name := "<init>", desc := "()V" } : Jvm.MethodName) object_method_1_code (1 : Nat) (Option.none : Option Jvm.ClassFile.FieldType), Jvm.Cond.code ({ cls := "java/lang/String", name := "valueOf", desc := "(C)Ljava/lang/String;" } : Jvm.MethodName) jdk_42_method_139_code (1 : Nat) (Option.some (Jvm.ClassFile.FieldType.object "java/lang/String")), Jvm.Cond.code ({ cls := "java/lang/StringLatin1", name := "canEncode", desc := "(C)Z" } : Jvm.MethodName) jdk_43_method_3_code (1 : Nat) (Option.some Jvm.ClassFile.FieldType.boolean), Jvm.Cond.code ({ cls := "java/lang/StringLatin1", name := "toBytes", desc := "(C)[B" } : Jvm.MethodName) jdk_43_method_46_code (1 : Nat) (Option.some (Jvm.ClassFile.FieldType.array Jvm.ClassFile.FieldType.byte)), Jvm.Cond.code ({ cls := "java/lang/String", name := "<init>", desc := "([BB)V" } : Jvm.MethodName) jdk_42_method_151_code (3 : Nat) (Option.none : Option Jvm.ClassFile.FieldType), Jvm.Cond.code ({ cls := "com/example/semijoin/semijoin/query/Identifier", name := "<init>", desc := "(Ljava/lang/String;ZLcom/example/semijoin/semijoin/query/Position;)V" } : Jvm.MethodName) prog_74_method_1_code (4 : Nat) (Option.none : Option Jvm.ClassFile.FieldType), Jvm.Cond.code ({ cls := "com/example/semijoin/semijoin/query/ColumnRef", name := "<init>", desc := "(Lcom/example/semijoin/semijoin/query/Identifier;Lcom/example/semijoin/semijoin/query/Identifier;Lcom/example/semijoin/semijoin/query/Identifier;)V" } : Jvm.MethodName) prog_65_method_2_code (4 : Nat) (Option.none : Option Jvm.ClassFile.FieldType), Jvm.Cond.code ({ cls := "com/example/semijoin/semijoin/query/ColumnRef", name := "getPosition", desc := "()Lcom/example/semijoin/semijoin/query/Position;" } : Jvm.MethodName) prog_65_method_6_code (2 : Nat) (Option.some (Jvm.ClassFile.FieldType.object "com/example/semijoin/semijoin/query/Position")), Jvm.Cond.code ({ cls := "com/example/semijoin/semijoin/query/Identifier", name := "getPosition", desc := "()Lcom/example/semijoin/semijoin/query/Position;" } : Jvm.MethodName) prog_74_method_4_code (1 : Nat) (Option.some (Jvm.ClassFile.FieldType.object "com/example/semijoin/semijoin/query/Position"))]
set_option maxRecDepth 65536 in
theorem codes_eq : words1.filter isCode = codes1 := rfl
theorem w_codes : ∀ c ∈ words1.filter isCode, c.before args0 about1 = true := by
  rw [codes_eq]
  intro c hc
  simp only [codes1, List.mem_cons, List.not_mem_nil, or_false] at hc
  rcases hc with rfl | rfl | rfl | rfl | rfl | rfl | rfl | rfl | rfl | rfl | rfl | rfl
  · exact w_c0
  · exact w_c1
  · exact w_c2
  · exact w_c3
  · exact w_c4
  · exact w_c5
  · exact w_c6
  · exact w_c7
  · exact w_c8
  · exact w_c9
  · exact w_c10
  · exact w_c11
set_option maxRecDepth 65536 in
theorem w_t1 : (words1.take 24).all (fun c => isCode c || c.before args0 about1) = true := by decide +kernel
set_option maxRecDepth 65536 in
theorem w_t2 : ((words1.drop 24).take 24).all (fun c => isCode c || c.before args0 about1) = true := by decide +kernel
set_option maxRecDepth 65536 in
theorem w_t3 : (((words1.drop 24).drop 24).take 24).all (fun c => isCode c || c.before args0 about1) = true := by decide +kernel
set_option maxRecDepth 65536 in
theorem w_t4 : (((words1.drop 24).drop 24).drop 24).all (fun c => isCode c || c.before args0 about1) = true := by decide +kernel
theorem w_tables : (allAtoms (Jvm.Cond.code x code maxLocals ret :: tables_1)).before args0 about1 = true := by
  rw [allAtoms_all]
  show words1.all (fun c => c.before args0 about1) = true
  refine all_split ?_ w_codes
  rw [← List.take_append_drop 24 words1, List.all_append, w_t1, ← List.take_append_drop 24 (words1.drop 24), List.all_append, w_t2, ← List.take_append_drop 24 ((words1.drop 24).drop 24), List.all_append, w_t3, w_t4]
  rfl
set_option maxRecDepth 65536 in
theorem w_rest : rest_1_c.before args0 about1 = true := by decide +kernel
set_option maxRecDepth 65536 in
theorem w_case : (Jvm.Cond.and given_1 narrow_1).before args0 about1 = true := by decide +kernel
theorem w_applies : (headSpec (Jvm.Cond.code x code maxLocals ret :: tables_1) room_1).applies x e0.platform about1 = true :=
  (Spec.applies_iff w_frames).mpr ⟨w_running, w_runnable, w_alone, w_named, w_hears, w_ripe, w_room, w_tables⟩
theorem atStart : AtStart classFile x code maxLocals ret World_1 tables_1 room_1 Calls_1 rest_1 Pre_1 launch0 p0 e0 about1 theMethod args0 below0 :=
  ⟨lists_1, trivial, launch0.admits_env _ _ _, launch0.least_env, fairChoices_fair.cas, fairChoices_fair.clock, w_frames, w_args, w_heap, w_applies, trivial, w_rest, w_case⟩
end start1
theorem witness_1 : WitnessClaimed_1 := ⟨start1.p0, start1.e0, start1.about1, start1.theMethod, start1.args0, start1.below0, start1.atStart⟩
end Jvm.Pilot.@@N@@
