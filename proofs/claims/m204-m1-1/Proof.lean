import JvmDerived
import JvmDerived.Pilot.@@N@@Statement
import JvmDerived.Pilot.@@N@@Code
set_option linter.unusedVariables false
set_option linter.unusedSimpArgs false
namespace Jvm.RoadKit
open Sem ClassFile Op Lib Jvm.Stand Jvm.Free Jvm.LawKit
section New
variable {p : Program} {l : Launch} {e : Env} {R : Room} {s : State} {m : MethodId} {args : Array Value} {below : List Frame} {meth : Method} {c : Code} {T : State} {locs : List Loc} {cells slots : Nat}
theorem retI (X : Stand p l e R s m args below meth c T locs cells slots) (hx : p.tables.exec = Jvm.exec) {pc : Nat} {Ls : Array Slot} {z : Int32} {rest : List Value} (hret : meth.sig.returnType = some .int) (hd : decode c.code pc = .ok (.ireturn, 1)) {fs : List Frame}
    (hl : ∀ (f : JFrame) (acts : List Action), f.method = m → f.locked = none → f.entered = [] → (doReturn e (T.setTop f) acts (some (.int z))).1 = T.setFrames fs) : Steps p.tables e below (T.setTop (mkF m pc Ls (.int z :: rest))) (T.setFrames fs) := by
  have hm' : T.vm.method? m = some meth := X.method'
  have hn : narrow .int (.int z) = .int z := rfl
  show Steps p.tables e below (T.setTop { method := m, pc := pc, locals := Ls, stack := _ :: rest, locked := none }) _
  jvm_step X.here [X.here.top, hx, hd, hm', hret, hn]
  first | (intro acts; rw [hl _ acts rfl rfl rfl]) | rw [hl _ _ rfl rfl rfl]
  exact Steps.refl _
theorem own_retN (X : Stand p l e R s m args below meth c T locs cells slots) (hx : p.tables.exec = Jvm.exec) {pc : Nat} {Ls : Array Slot} {z z' : Int32} {t : FieldType} {rest : List Value} (hret : meth.sig.returnType = some t) (ht : t = .boolean ∨ t = .byte ∨ t = .char ∨ t = .short)
    (hd : decode c.code pc = .ok (.ireturn, 1)) (hz : nar t z = z') {fs : List Frame} (hl : ∀ (f : JFrame) (acts : List Action), f.method = m → f.locked = none → f.entered = [] → (doReturn e (T.setTop f) acts (some (.int z'))).1 = T.setFrames fs) :
    Steps p.tables e below (T.setTop (mkF m pc Ls (.int z :: rest))) (T.setFrames fs) := by
  subst hz; exact retN X hx hret ht hd hl
end New
theorem own_nar_if {P : Prop} [Decidable P] {a b : Int32} (ha : nar .boolean a = a) (hb : nar .boolean b = b) : nar .boolean (if P then a else b) = if P then a else b := by
  split
  · exact ha
  · exact hb
theorem own_b_lt (x y : Int32) : (if if_icmp.holds .lt x y = true then (0 : Int32) else 1) = if x < y then 0 else 1 := by
  by_cases h : x < y
  · rw [(tlt h).1]; simp [h]
  · rw [(flt h).1]; simp [h]
theorem own_b_ge (x y : Int32) : (if if_icmp.holds .ge x y = true then (0 : Int32) else 1) = if x < y then 1 else 0 := by
  by_cases h : x < y
  · rw [(tlt h).2.1]; simp [h]
  · rw [(flt h).2.1]; simp [h]
theorem own_b_gt (x y : Int32) : (if if_icmp.holds .gt x y = true then (0 : Int32) else 1) = if y < x then 0 else 1 := by
  by_cases h : y < x
  · rw [(tlt h).2.2.1]; simp [h]
  · rw [(flt h).2.2.1]; simp [h]
theorem own_b_le (x y : Int32) : (if if_icmp.holds .le x y = true then (0 : Int32) else 1) = if y < x then 1 else 0 := by
  by_cases h : y < x
  · rw [(tlt h).2.2.2]; simp [h]
  · rw [(flt h).2.2.2]; simp [h]
theorem own_b_eq (x y : Int32) : (if if_icmp.holds .eq x y = true then (0 : Int32) else 1) = if x = y then 0 else 1 := by
  by_cases h : x = y
  · rw [(teq h).1]; simp [h]
  · rw [(feq h).1]; simp [h]
theorem own_b_ne (x y : Int32) : (if if_icmp.holds .ne x y = true then (0 : Int32) else 1) = if x = y then 1 else 0 := by
  by_cases h : x = y
  · rw [(teq h).2]; simp [h]
  · rw [(feq h).2]; simp [h]
theorem own_boolC {tb : Tables} [Ours tb] {e : Env} {below : List Frame} {T target : State} {m : MethodId} {c : Code} {g : JFrame} (h : At T m c below) (hx : tb.exec = Jvm.exec) (hg : g.method = m) {cd : ClassFile.Cond} {x y z : Int32} {rest : List Value}
    (hd0 : decode c.code g.pc = .ok (.if_icmp cd 7, 3)) (hd1 : decode c.code (g.pc + 3) = .ok (.iconst 1, 1)) (hd2 : decode c.code (g.pc + 4) = .ok (.goto 4, 3)) (hd3 : decode c.code (g.pc + 7) = .ok (.iconst 0, 1)) (hs : g.stack = .int y :: .int x :: rest)
    (hz : (if if_icmp.holds cd x y = true then (0 : Int32) else 1) = z) (hr : Steps tb e below (T.setTop { g with pc := g.pc + 8, stack := .int z :: rest }) target) : Steps tb e below (T.setTop g) target := by
  by_cases hc : if_icmp.holds cd x y = true
  · rw [if_pos hc] at hz; subst hz
    exact XS.icmpYes h hx hg (pc0 := g.pc) (pc' := g.pc + 7) rfl hd0 hs hc (by omega) (by omega) (XS.iconst h hx hg hd3 hr)
  · rw [if_neg hc] at hz; subst hz
    exact XS.icmpNo h hx hg hd0 hs (by simpa using hc) (XS.iconst h hx hg hd1 (XS.goto h hx hg (pc0 := g.pc + 4) (pc' := g.pc + 8) rfl hd2 (by omega) (by omega) hr))
theorem own_boolI {tb : Tables} [Ours tb] {e : Env} {below : List Frame} {T target : State} {m : MethodId} {c : Code} {g : JFrame} (h : At T m c below) (hx : tb.exec = Jvm.exec) (hg : g.method = m) {cd : ClassFile.Cond} {x z : Int32} {rest : List Value}
    (hd0 : decode c.code g.pc = .ok (.ifCond cd 7, 3)) (hd1 : decode c.code (g.pc + 3) = .ok (.iconst 1, 1)) (hd2 : decode c.code (g.pc + 4) = .ok (.goto 4, 3)) (hd3 : decode c.code (g.pc + 7) = .ok (.iconst 0, 1)) (hs : g.stack = .int x :: rest)
    (hz : (if if_icmp.holds cd x 0 = true then (0 : Int32) else 1) = z) (hr : Steps tb e below (T.setTop { g with pc := g.pc + 8, stack := .int z :: rest }) target) : Steps tb e below (T.setTop g) target := by
  by_cases hc : if_icmp.holds cd x 0 = true
  · rw [if_pos hc] at hz; subst hz
    exact XS.ifYes h hx hg (pc0 := g.pc) (pc' := g.pc + 7) rfl hd0 hs ((if0 _ _).trans hc) (by omega) (by omega) (XS.iconst h hx hg hd3 hr)
  · rw [if_neg hc] at hz; subst hz
    exact XS.ifNo h hx hg hd0 hs ((if0 _ _).trans (by simpa using hc)) (XS.iconst h hx hg hd1 (XS.goto h hx hg (pc0 := g.pc + 4) (pc' := g.pc + 8) rfl hd2 (by omega) (by omega) hr))
theorem own_selects_private {y : MethodName} {s : State} {args : Array Value} {n : Nat} (hins : (Cond.instantiable y.cls n).before args s = true) (hpriv : (Cond.privateMethod y).before args s = true) (hinst : (Cond.instanceMethod y).before args s = true) (hy : y.cls ≠ "java/lang/invoke/MethodHandle" ∧ y.cls ≠ "java/lang/invoke/VarHandle" := by decide) :
    (Cond.selects y.cls y y).before args s = true := by
  obtain ⟨c, k, hc, hk, -, hniab, -, -⟩ := Cond.instantiable_spec hins
  have hni : k.isInterface = false := (Bool.or_eq_false_iff.mp hniab).1
  obtain ⟨mk, methM, hnamed, hmethM, -, -⟩ := Cond.instanceMethod_spec hinst
  have hfound : s.methodFound? y.cls y.name y.desc = some mk := State.methodFound?_of_named hnamed hy
  have hcls : mk.cls = c := Option.some.inj ((findClass_of_methodNamed hnamed).symm.trans hc)
  have hsel : selectMethod {} s.vm c mk = .method mk := selectMethod_private hmethM (Cond.privateMethod_at hpriv mk methM hnamed hmethM)
  simp only [Cond.before, Cond.holds, Cond.value, hc, hfound, hnamed, hsel, hcls, hk]
  simp; exact hni
theorem own_sta_keep {Z : State} {h h' : Heap} {C n d : String} {v : Value} {ws : List Addr} (F : Sta Z h C n d v) (K : Keep h h' ws) (q : ∀ x ∈ ws, ∀ cell : Cell, h[x]? = some cell → cell.vm.isStatics = false) : Sta Z h' C n d v := by
  obtain ⟨cf, i, k, f, st, cell, h1, h2, h3, h4, h5, h6, h7⟩ := F
  refine ⟨cf, i, k, f, st, cell, h1, h2, h3, h4, K.2.1 _ _ h5 (fun hm => ?_), h6, h7⟩
  rw [q _ hm _ h5] at h6; cases h6
theorem own_plain_exa {Z : State} {h : Heap} {a : Addr} {C : String} (F : Exa Z h a C) : ∀ cell : Cell, h[a]? = some cell → cell.vm.isStatics = false := fun cell hc => by
  obtain ⟨c, k, h1, -, -, h4, -⟩ := F
  cases h1.symm.trans hc; exact h4
end Jvm.RoadKit
namespace Jvm.Pilot.@@N@@
open Jvm Jvm.ClassFile Sem Op Lib Jvm.Free Jvm.Stand Jvm.LawKit Jvm.RoadKit Bundle Jvm.Pilot.@@N@@.Jvm.D
def own_sel (k : Int32) (u0 u1 u2 u3 u4 u5 : Addr) : Addr := if k = 0 then u0 else if k = 1 then u1 else if k = 2 then u2 else if k = 3 then u3 else if k = 4 then u4 else u5
theorem own_k6 (a : Int32) : ((a &&& (2147483647 : Int32)) % (6 : Int32)) = 0 ∨ ((a &&& (2147483647 : Int32)) % (6 : Int32)) = 1 ∨ ((a &&& (2147483647 : Int32)) % (6 : Int32)) = 2 ∨ ((a &&& (2147483647 : Int32)) % (6 : Int32)) = 3 ∨ ((a &&& (2147483647 : Int32)) % (6 : Int32)) = 4 ∨ ((a &&& (2147483647 : Int32)) % (6 : Int32)) = 5 := by
  have h1 := c_and a (2147483647 : Int32) (by decide)
  have h2 := (c_irem (a &&& (2147483647 : Int32)) (6 : Int32) 6 (by decide)).1 h1.1
  generalize ((a &&& (2147483647 : Int32)) % (6 : Int32)) = k at *
  have e : ∀ j : Int32, k.toInt = j.toInt → k = j := fun j h => Int32.toInt_inj.mp h
  have h3 : k.toInt = 0 ∨ k.toInt = 1 ∨ k.toInt = 2 ∨ k.toInt = 3 ∨ k.toInt = 4 ∨ k.toInt = 5 := by omega
  rcases h3 with h | h | h | h | h | h
  · exact Or.inl (e 0 h)
  · exact Or.inr (Or.inl (e 1 h))
  · exact Or.inr (Or.inr (Or.inl (e 2 h)))
  · exact Or.inr (Or.inr (Or.inr (Or.inl (e 3 h))))
  · exact Or.inr (Or.inr (Or.inr (Or.inr (Or.inl (e 4 h)))))
  · exact Or.inr (Or.inr (Or.inr (Or.inr (Or.inr (e 5 h)))))
theorem own_ord {args : Array Value} {s : State} {t : Term} {C n d : String} {i : Int32} {y : Addr} (ht : t.eval args s none [] s = some (.ref y)) (h : (Cond.eq (Term.field t C n d) (Term.int i)).value args s none s [] = some true) : s.fieldOf? y C n d = some (.int i) := by
  have h1 : (Term.field t C n d).eval args s none [] s = s.fieldOf? y C n d := fld_at ht
  have h2 : (Term.int i).eval args s none [] s = some (.int i) := Term.int_eval i
  cases hv : s.fieldOf? y C n d with
  | none => rw [hv] at h1; simp [Cond.value, h1] at h
  | some v => rw [hv] at h1; cases v <;> simp [Cond.value, h1, h2] at h; subst h; rfl
theorem own_ne {s : State} {C n d : String} {i j : Int32} {y z : Addr} (h1 : s.fieldOf? y C n d = some (.int i)) (h2 : s.fieldOf? z C n d = some (.int j)) (h : ¬ i = j) : ¬ y = z := fun e => by
  subst e; rw [h1] at h2; cases h2; exact h rfl
theorem d1_0 : decode method_3_code 0 = .ok (.iload_n 0, 1) := by decide +kernel
theorem d1_1 : decode method_3_code 1 = .ok (.ifCond .ne 7, 3) := by decide +kernel
theorem d1_4 : decode method_3_code 4 = .ok (.getstatic 20, 3) := by decide +kernel
theorem d1_7 : decode method_3_code 7 = .ok (.areturn, 1) := by decide +kernel
theorem d1_8 : decode method_3_code 8 = .ok (.iload_n 0, 1) := by decide +kernel
theorem d1_9 : decode method_3_code 9 = .ok (.iconst 1, 1) := by decide +kernel
theorem d1_10 : decode method_3_code 10 = .ok (.if_icmp .ne 7, 3) := by decide +kernel
theorem d1_13 : decode method_3_code 13 = .ok (.getstatic 24, 3) := by decide +kernel
theorem d1_16 : decode method_3_code 16 = .ok (.areturn, 1) := by decide +kernel
theorem d1_17 : decode method_3_code 17 = .ok (.iload_n 0, 1) := by decide +kernel
theorem d1_18 : decode method_3_code 18 = .ok (.iconst 2, 1) := by decide +kernel
theorem d1_19 : decode method_3_code 19 = .ok (.if_icmp .ne 7, 3) := by decide +kernel
theorem d1_22 : decode method_3_code 22 = .ok (.getstatic 27, 3) := by decide +kernel
theorem d1_25 : decode method_3_code 25 = .ok (.areturn, 1) := by decide +kernel
theorem d1_26 : decode method_3_code 26 = .ok (.iload_n 0, 1) := by decide +kernel
theorem d1_27 : decode method_3_code 27 = .ok (.iconst 3, 1) := by decide +kernel
theorem d1_28 : decode method_3_code 28 = .ok (.if_icmp .ne 7, 3) := by decide +kernel
theorem d1_31 : decode method_3_code 31 = .ok (.getstatic 30, 3) := by decide +kernel
theorem d1_34 : decode method_3_code 34 = .ok (.areturn, 1) := by decide +kernel
theorem d1_35 : decode method_3_code 35 = .ok (.iload_n 0, 1) := by decide +kernel
theorem d1_36 : decode method_3_code 36 = .ok (.iconst 4, 1) := by decide +kernel
theorem d1_37 : decode method_3_code 37 = .ok (.if_icmp .ne 7, 3) := by decide +kernel
theorem d1_40 : decode method_3_code 40 = .ok (.getstatic 33, 3) := by decide +kernel
theorem d1_43 : decode method_3_code 43 = .ok (.areturn, 1) := by decide +kernel
theorem d1_44 : decode method_3_code 44 = .ok (.getstatic 36, 3) := by decide +kernel
theorem d1_47 : decode method_3_code 47 = .ok (.areturn, 1) := by decide +kernel
theorem ef_rm1 (m : MethodId) (x0 : Int32) : entryFrame m #[(.int x0)] 1 = mkF m 0 #[.val (.int x0)] [] := by first | (simp [entryFrame, mkF, argsToLocals, Value.category]; done) | rfl
theorem pn_0 : plainName "com/example/semijoin/semijoin/jpql/UseKeepsUnmatchedRowsPinLaw" = true := by first | (simp [plainName, overriddenIn]; done) | decide +kernel
def Q1 (Z : State) (p0 : Int32) (u0 u1 u2 u3 u4 u5 r : Addr) (h0 : Heap) (n0 : Nat) (v : Option Value) (h : Heap) (L : List Loc) : Prop := v = some (.ref r) ∧ Fr n0 L ∧ h = h0
set_option maxRecDepth 65536 in
set_option maxHeartbeats 40000000 in
theorem rm1 (l : Launch) (Z : State) (a0 : Array Value) (hw : ∀ d ∈ tables_1, d.before a0 Z = true) (ws : List Jvm.Cond) (p0 : Int32) (u0 u1 u2 u3 u4 u5 r : Addr) (h0 : Heap) (n0 : Nat) (Z0 : n0 ≤ h0.size) (S0 : Sta Z h0 "com/example/semijoin/semijoin/jpql/Block$Use" "QUERY" "Lcom/example/semijoin/semijoin/jpql/Block$Use;" (.ref u0)) (S1 : Sta Z h0 "com/example/semijoin/semijoin/jpql/Block$Use" "VALUES" "Lcom/example/semijoin/semijoin/jpql/Block$Use;" (.ref u1)) (S2 : Sta Z h0 "com/example/semijoin/semijoin/jpql/Block$Use" "EXISTS" "Lcom/example/semijoin/semijoin/jpql/Block$Use;" (.ref u2)) (S3 : Sta Z h0 "com/example/semijoin/semijoin/jpql/Block$Use" "NOT_EXISTS" "Lcom/example/semijoin/semijoin/jpql/Block$Use;" (.ref u3)) (S4 : Sta Z h0 "com/example/semijoin/semijoin/jpql/Block$Use" "EXCLUDED" "Lcom/example/semijoin/semijoin/jpql/Block$Use;" (.ref u4)) (S5 : Sta Z h0 "com/example/semijoin/semijoin/jpql/Block$Use" "SCALAR" "Lcom/example/semijoin/semijoin/jpql/Block$Use;" (.ref u5)) (hr : own_sel p0 u0 u1 u2 u3 u4 u5 = r) :
    MetFree l (⟨"com/example/semijoin/semijoin/jpql/UseKeepsUnmatchedRowsPinLaw", "useAt", "(I)Lcom/example/semijoin/semijoin/jpql/Block$Use;"⟩ : MethodName) (head1 (Jvm.Cond.code (⟨"com/example/semijoin/semijoin/jpql/UseKeepsUnmatchedRowsPinLaw", "useAt", "(I)Lcom/example/semijoin/semijoin/jpql/Block$Use;"⟩ : MethodName) method_3_code 1 (some (.object "com/example/semijoin/semijoin/jpql/Block$Use")) :: ws) ({ frames := 0, cells := 0, slots := 0, locals := 0 } : Room)) (fun a U => a = #[(.int p0)] ∧ Z.Warmed39 U.vm ∧ U.heap = h0) (fun _ _ _ _ _ => True) (fun _ U o U' => ∃ v L, o = .returned v ∧ Q1 Z p0 u0 u1 u2 u3 u4 u5 r h0 n0 v U'.heap L ∧ FrameEnd U o U' L ({ frames := 0, cells := 0, slots := 0, locals := 0 } : Room).cells ({ frames := 0, cells := 0, slots := 0, locals := 0 } : Room).slots) := by
  refine MetFree.of_bodySF (plainFor_of_name pn_0) hisR ?_
  intro p e s0 m args below meth c s₁ Bd hml0 hP hK
  obtain ⟨rfl, hZ, hh⟩ := hP
  have hx := Bd.exec
  have hby := Bd.bytes
  have hml : c.maxLocals = 1 := hml0
  have hown : s0.vm.findClass "com/example/semijoin/semijoin/jpql/UseKeepsUnmatchedRowsPinLaw" = some m.cls := findClass_of_methodNamed Bd.named
  have hnm := (name_of_methodNamed Bd.named Bd.method).1
  have X0 : Stand p l e ({ frames := 0, cells := 0, slots := 0, locals := 0 } : Room) s0 m #[(.int p0)] below meth c s₁ [] 0 0 := Stand.of_body Bd
  have e0 : s₁.heap = h0 := by rw [← hh, Bd.state]; rfl
  have N0 := Fr.nil n0
  have pre0 : ∀ t, Steps p.tables e below (s₁.setTop (mkF m 0 #[.val (.int p0)] [])) t → Steps p.tables e below (s₁.setTop (entryFrame m #[(.int p0)] 1)) t := fun t k => castTop (ef_rm1 m p0) k
  have pre1 : ∀ t, Steps p.tables e below (s₁.setTop (mkF m 1 #[.val (.int p0)] [(.int p0)])) t → Steps p.tables e below (s₁.setTop (entryFrame m #[(.int p0)] 1)) t := fun t k => by
    refine pre0 t ?_
    show Steps p.tables e below (s₁.setTop (mkF m 0 #[.val (.int p0)] [])) _
    refine XS.iloadN X0.here hx rfl (hb hby d1_0) rfl ?_
    exact k
  by_cases hc1_2 : p0 = (0 : Int32)
  · obtain ⟨T3, X3, e3, st3⟩ := getS2 X0 hx hZ hown (host := "") (Or.inl (hw _ (List.mem_of_getElem? (i := 5) rfl))) Via.refl e0 S0 (g := (mkF m 4 #[.val (.int p0)] [])) rfl (hb hby d1_4)
    have pre4 : ∀ t, Steps p.tables e below (T3.setTop (mkF m 7 #[.val (.int p0)] [(.ref u0)])) t → Steps p.tables e below (s₁.setTop (entryFrame m #[(.int p0)] 1)) t := fun t k => by
      refine pre1 t ?_
      show Steps p.tables e below (s₁.setTop (mkF m 1 #[.val (.int p0)] [(.int p0)])) _
      refine XS.ifNo X0.here hx rfl (hb hby d1_1) rfl ((if0 _ _).trans (teq hc1_2).2) ?_
      show Steps p.tables e below (s₁.setTop (mkF m 4 #[.val (.int p0)] [])) _
      refine st3 _ ?_
      exact k
    obtain ⟨fs, hrq, hrun, hended, hW, hsame⟩ := X3.leave (v := some (.ref u0)) (fun h => by rw [Bd.returns] at h; cases h)
    refine ⟨_, _, pre4 _ ?_, hrun, hended, _, _, rfl, ?_, ⟨_, rfl⟩, hW, hsame.mono (by decide) (by decide)⟩
    · show Steps p.tables e below (T3.setTop (mkF m 7 #[.val (.int p0)] [(.ref u0)])) _
      exact retOut X3 hx Bd.returns rfl (Or.inr (Or.inr (Or.inr (Or.inr ⟨rfl, rfl, rfl⟩)))) (hb hby d1_7) hrq
    · show Q1 Z p0 u0 u1 u2 u3 u4 u5 r h0 n0 _ T3.heap _
      rw [e3]
      exact ⟨by rw [← hr]; simp [own_sel, hc1_2], N0, rfl⟩
  · have pre5 : ∀ t, Steps p.tables e below (s₁.setTop (mkF m 10 #[.val (.int p0)] [(.int (1 : Int32)), (.int p0)])) t → Steps p.tables e below (s₁.setTop (entryFrame m #[(.int p0)] 1)) t := fun t k => by
      refine pre1 t ?_
      show Steps p.tables e below (s₁.setTop (mkF m 1 #[.val (.int p0)] [(.int p0)])) _
      refine XS.ifYes X0.here hx rfl (pc0 := 1) (pc' := 8) rfl (hb hby d1_1) rfl ((if0 _ _).trans (feq hc1_2).2) (by decide) (by decide) ?_
      show Steps p.tables e below (s₁.setTop (mkF m 8 #[.val (.int p0)] [])) _
      refine XS.iloadN X0.here hx rfl (hb hby d1_8) rfl ?_
      show Steps p.tables e below (s₁.setTop (mkF m 9 #[.val (.int p0)] [(.int p0)])) _
      refine XS.iconst X0.here hx rfl (hb hby d1_9) ?_
      exact k
    by_cases hc10_6 : p0 = (1 : Int32)
    · obtain ⟨T7, X7, e7, st7⟩ := getS2 X0 hx hZ hown (host := "") (Or.inl (hw _ (List.mem_of_getElem? (i := 23) rfl))) Via.refl e0 S1 (g := (mkF m 13 #[.val (.int p0)] [])) rfl (hb hby d1_13)
      have pre8 : ∀ t, Steps p.tables e below (T7.setTop (mkF m 16 #[.val (.int p0)] [(.ref u1)])) t → Steps p.tables e below (s₁.setTop (entryFrame m #[(.int p0)] 1)) t := fun t k => by
        refine pre5 t ?_
        show Steps p.tables e below (s₁.setTop (mkF m 10 #[.val (.int p0)] [(.int (1 : Int32)), (.int p0)])) _
        refine XS.icmpNo X0.here hx rfl (hb hby d1_10) rfl (teq hc10_6).2 ?_
        show Steps p.tables e below (s₁.setTop (mkF m 13 #[.val (.int p0)] [])) _
        refine st7 _ ?_
        exact k
      obtain ⟨fs, hrq, hrun, hended, hW, hsame⟩ := X7.leave (v := some (.ref u1)) (fun h => by rw [Bd.returns] at h; cases h)
      refine ⟨_, _, pre8 _ ?_, hrun, hended, _, _, rfl, ?_, ⟨_, rfl⟩, hW, hsame.mono (by decide) (by decide)⟩
      · show Steps p.tables e below (T7.setTop (mkF m 16 #[.val (.int p0)] [(.ref u1)])) _
        exact retOut X7 hx Bd.returns rfl (Or.inr (Or.inr (Or.inr (Or.inr ⟨rfl, rfl, rfl⟩)))) (hb hby d1_16) hrq
      · show Q1 Z p0 u0 u1 u2 u3 u4 u5 r h0 n0 _ T7.heap _
        rw [e7]
        exact ⟨by rw [← hr]; simp [own_sel, hc1_2, hc10_6], N0, rfl⟩
    · have pre9 : ∀ t, Steps p.tables e below (s₁.setTop (mkF m 19 #[.val (.int p0)] [(.int (2 : Int32)), (.int p0)])) t → Steps p.tables e below (s₁.setTop (entryFrame m #[(.int p0)] 1)) t := fun t k => by
        refine pre5 t ?_
        show Steps p.tables e below (s₁.setTop (mkF m 10 #[.val (.int p0)] [(.int (1 : Int32)), (.int p0)])) _
        refine XS.icmpYes X0.here hx rfl (pc0 := 10) (pc' := 17) rfl (hb hby d1_10) rfl (feq hc10_6).2 (by decide) (by decide) ?_
        show Steps p.tables e below (s₁.setTop (mkF m 17 #[.val (.int p0)] [])) _
        refine XS.iloadN X0.here hx rfl (hb hby d1_17) rfl ?_
        show Steps p.tables e below (s₁.setTop (mkF m 18 #[.val (.int p0)] [(.int p0)])) _
        refine XS.iconst X0.here hx rfl (hb hby d1_18) ?_
        exact k
      by_cases hc19_10 : p0 = (2 : Int32)
      · obtain ⟨T11, X11, e11, st11⟩ := getS2 X0 hx hZ hown (host := "") (Or.inl (hw _ (List.mem_of_getElem? (i := 21) rfl))) Via.refl e0 S2 (g := (mkF m 22 #[.val (.int p0)] [])) rfl (hb hby d1_22)
        have pre12 : ∀ t, Steps p.tables e below (T11.setTop (mkF m 25 #[.val (.int p0)] [(.ref u2)])) t → Steps p.tables e below (s₁.setTop (entryFrame m #[(.int p0)] 1)) t := fun t k => by
          refine pre9 t ?_
          show Steps p.tables e below (s₁.setTop (mkF m 19 #[.val (.int p0)] [(.int (2 : Int32)), (.int p0)])) _
          refine XS.icmpNo X0.here hx rfl (hb hby d1_19) rfl (teq hc19_10).2 ?_
          show Steps p.tables e below (s₁.setTop (mkF m 22 #[.val (.int p0)] [])) _
          refine st11 _ ?_
          exact k
        obtain ⟨fs, hrq, hrun, hended, hW, hsame⟩ := X11.leave (v := some (.ref u2)) (fun h => by rw [Bd.returns] at h; cases h)
        refine ⟨_, _, pre12 _ ?_, hrun, hended, _, _, rfl, ?_, ⟨_, rfl⟩, hW, hsame.mono (by decide) (by decide)⟩
        · show Steps p.tables e below (T11.setTop (mkF m 25 #[.val (.int p0)] [(.ref u2)])) _
          exact retOut X11 hx Bd.returns rfl (Or.inr (Or.inr (Or.inr (Or.inr ⟨rfl, rfl, rfl⟩)))) (hb hby d1_25) hrq
        · show Q1 Z p0 u0 u1 u2 u3 u4 u5 r h0 n0 _ T11.heap _
          rw [e11]
          exact ⟨by rw [← hr]; simp [own_sel, hc1_2, hc10_6, hc19_10], N0, rfl⟩
      · have pre13 : ∀ t, Steps p.tables e below (s₁.setTop (mkF m 28 #[.val (.int p0)] [(.int (3 : Int32)), (.int p0)])) t → Steps p.tables e below (s₁.setTop (entryFrame m #[(.int p0)] 1)) t := fun t k => by
          refine pre9 t ?_
          show Steps p.tables e below (s₁.setTop (mkF m 19 #[.val (.int p0)] [(.int (2 : Int32)), (.int p0)])) _
          refine XS.icmpYes X0.here hx rfl (pc0 := 19) (pc' := 26) rfl (hb hby d1_19) rfl (feq hc19_10).2 (by decide) (by decide) ?_
          show Steps p.tables e below (s₁.setTop (mkF m 26 #[.val (.int p0)] [])) _
          refine XS.iloadN X0.here hx rfl (hb hby d1_26) rfl ?_
          show Steps p.tables e below (s₁.setTop (mkF m 27 #[.val (.int p0)] [(.int p0)])) _
          refine XS.iconst X0.here hx rfl (hb hby d1_27) ?_
          exact k
        by_cases hc28_14 : p0 = (3 : Int32)
        · obtain ⟨T15, X15, e15, st15⟩ := getS2 X0 hx hZ hown (host := "") (Or.inl (hw _ (List.mem_of_getElem? (i := 20) rfl))) Via.refl e0 S3 (g := (mkF m 31 #[.val (.int p0)] [])) rfl (hb hby d1_31)
          have pre16 : ∀ t, Steps p.tables e below (T15.setTop (mkF m 34 #[.val (.int p0)] [(.ref u3)])) t → Steps p.tables e below (s₁.setTop (entryFrame m #[(.int p0)] 1)) t := fun t k => by
            refine pre13 t ?_
            show Steps p.tables e below (s₁.setTop (mkF m 28 #[.val (.int p0)] [(.int (3 : Int32)), (.int p0)])) _
            refine XS.icmpNo X0.here hx rfl (hb hby d1_28) rfl (teq hc28_14).2 ?_
            show Steps p.tables e below (s₁.setTop (mkF m 31 #[.val (.int p0)] [])) _
            refine st15 _ ?_
            exact k
          obtain ⟨fs, hrq, hrun, hended, hW, hsame⟩ := X15.leave (v := some (.ref u3)) (fun h => by rw [Bd.returns] at h; cases h)
          refine ⟨_, _, pre16 _ ?_, hrun, hended, _, _, rfl, ?_, ⟨_, rfl⟩, hW, hsame.mono (by decide) (by decide)⟩
          · show Steps p.tables e below (T15.setTop (mkF m 34 #[.val (.int p0)] [(.ref u3)])) _
            exact retOut X15 hx Bd.returns rfl (Or.inr (Or.inr (Or.inr (Or.inr ⟨rfl, rfl, rfl⟩)))) (hb hby d1_34) hrq
          · show Q1 Z p0 u0 u1 u2 u3 u4 u5 r h0 n0 _ T15.heap _
            rw [e15]
            exact ⟨by rw [← hr]; simp [own_sel, hc1_2, hc10_6, hc19_10, hc28_14], N0, rfl⟩
        · have pre17 : ∀ t, Steps p.tables e below (s₁.setTop (mkF m 37 #[.val (.int p0)] [(.int (4 : Int32)), (.int p0)])) t → Steps p.tables e below (s₁.setTop (entryFrame m #[(.int p0)] 1)) t := fun t k => by
            refine pre13 t ?_
            show Steps p.tables e below (s₁.setTop (mkF m 28 #[.val (.int p0)] [(.int (3 : Int32)), (.int p0)])) _
            refine XS.icmpYes X0.here hx rfl (pc0 := 28) (pc' := 35) rfl (hb hby d1_28) rfl (feq hc28_14).2 (by decide) (by decide) ?_
            show Steps p.tables e below (s₁.setTop (mkF m 35 #[.val (.int p0)] [])) _
            refine XS.iloadN X0.here hx rfl (hb hby d1_35) rfl ?_
            show Steps p.tables e below (s₁.setTop (mkF m 36 #[.val (.int p0)] [(.int p0)])) _
            refine XS.iconst X0.here hx rfl (hb hby d1_36) ?_
            exact k
          by_cases hc37_18 : p0 = (4 : Int32)
          · obtain ⟨T19, X19, e19, st19⟩ := getS2 X0 hx hZ hown (host := "") (Or.inl (hw _ (List.mem_of_getElem? (i := 26) rfl))) Via.refl e0 S4 (g := (mkF m 40 #[.val (.int p0)] [])) rfl (hb hby d1_40)
            have pre20 : ∀ t, Steps p.tables e below (T19.setTop (mkF m 43 #[.val (.int p0)] [(.ref u4)])) t → Steps p.tables e below (s₁.setTop (entryFrame m #[(.int p0)] 1)) t := fun t k => by
              refine pre17 t ?_
              show Steps p.tables e below (s₁.setTop (mkF m 37 #[.val (.int p0)] [(.int (4 : Int32)), (.int p0)])) _
              refine XS.icmpNo X0.here hx rfl (hb hby d1_37) rfl (teq hc37_18).2 ?_
              show Steps p.tables e below (s₁.setTop (mkF m 40 #[.val (.int p0)] [])) _
              refine st19 _ ?_
              exact k
            obtain ⟨fs, hrq, hrun, hended, hW, hsame⟩ := X19.leave (v := some (.ref u4)) (fun h => by rw [Bd.returns] at h; cases h)
            refine ⟨_, _, pre20 _ ?_, hrun, hended, _, _, rfl, ?_, ⟨_, rfl⟩, hW, hsame.mono (by decide) (by decide)⟩
            · show Steps p.tables e below (T19.setTop (mkF m 43 #[.val (.int p0)] [(.ref u4)])) _
              exact retOut X19 hx Bd.returns rfl (Or.inr (Or.inr (Or.inr (Or.inr ⟨rfl, rfl, rfl⟩)))) (hb hby d1_43) hrq
            · show Q1 Z p0 u0 u1 u2 u3 u4 u5 r h0 n0 _ T19.heap _
              rw [e19]
              exact ⟨by rw [← hr]; simp [own_sel, hc1_2, hc10_6, hc19_10, hc28_14, hc37_18], N0, rfl⟩
          · obtain ⟨T21, X21, e21, st21⟩ := getS2 X0 hx hZ hown (host := "") (Or.inl (hw _ (List.mem_of_getElem? (i := 25) rfl))) Via.refl e0 S5 (g := (mkF m 44 #[.val (.int p0)] [])) rfl (hb hby d1_44)
            have pre22 : ∀ t, Steps p.tables e below (T21.setTop (mkF m 47 #[.val (.int p0)] [(.ref u5)])) t → Steps p.tables e below (s₁.setTop (entryFrame m #[(.int p0)] 1)) t := fun t k => by
              refine pre17 t ?_
              show Steps p.tables e below (s₁.setTop (mkF m 37 #[.val (.int p0)] [(.int (4 : Int32)), (.int p0)])) _
              refine XS.icmpYes X0.here hx rfl (pc0 := 37) (pc' := 44) rfl (hb hby d1_37) rfl (feq hc37_18).2 (by decide) (by decide) ?_
              show Steps p.tables e below (s₁.setTop (mkF m 44 #[.val (.int p0)] [])) _
              refine st21 _ ?_
              exact k
            obtain ⟨fs, hrq, hrun, hended, hW, hsame⟩ := X21.leave (v := some (.ref u5)) (fun h => by rw [Bd.returns] at h; cases h)
            refine ⟨_, _, pre22 _ ?_, hrun, hended, _, _, rfl, ?_, ⟨_, rfl⟩, hW, hsame.mono (by decide) (by decide)⟩
            · show Steps p.tables e below (T21.setTop (mkF m 47 #[.val (.int p0)] [(.ref u5)])) _
              exact retOut X21 hx Bd.returns rfl (Or.inr (Or.inr (Or.inr (Or.inr ⟨rfl, rfl, rfl⟩)))) (hb hby d1_47) hrq
            · show Q1 Z p0 u0 u1 u2 u3 u4 u5 r h0 n0 _ T21.heap _
              rw [e21]
              exact ⟨by rw [← hr]; simp [own_sel, hc1_2, hc10_6, hc19_10, hc28_14, hc37_18], N0, rfl⟩
theorem d2_0 : decode prog_35_method_4_code 0 = .ok (.aload_n 0, 1) := by decide +kernel
theorem d2_1 : decode prog_35_method_4_code 1 = .ok (.getstatic 13, 3) := by decide +kernel
theorem d2_4 : decode prog_35_method_4_code 4 = .ok (.if_acmp .eq 17, 3) := by decide +kernel
theorem d2_7 : decode prog_35_method_4_code 7 = .ok (.aload_n 0, 1) := by decide +kernel
theorem d2_8 : decode prog_35_method_4_code 8 = .ok (.getstatic 16, 3) := by decide +kernel
theorem d2_11 : decode prog_35_method_4_code 11 = .ok (.if_acmp .eq 10, 3) := by decide +kernel
theorem d2_14 : decode prog_35_method_4_code 14 = .ok (.aload_n 0, 1) := by decide +kernel
theorem d2_15 : decode prog_35_method_4_code 15 = .ok (.getstatic 19, 3) := by decide +kernel
theorem d2_18 : decode prog_35_method_4_code 18 = .ok (.if_acmp .ne 7, 3) := by decide +kernel
theorem d2_21 : decode prog_35_method_4_code 21 = .ok (.iconst 1, 1) := by decide +kernel
theorem d2_22 : decode prog_35_method_4_code 22 = .ok (.goto 4, 3) := by decide +kernel
theorem d2_25 : decode prog_35_method_4_code 25 = .ok (.iconst 0, 1) := by decide +kernel
theorem d2_26 : decode prog_35_method_4_code 26 = .ok (.ireturn, 1) := by decide +kernel
theorem ef_rm2 (m : MethodId) (x0 : Addr) : entryFrame m #[(.ref x0)] 1 = mkF m 0 #[.val (.ref x0)] [] := by first | (simp [entryFrame, mkF, argsToLocals, Value.category]; done) | rfl
theorem pn_1 : plainName "com/example/semijoin/semijoin/jpql/Block$Use" = true := by first | (simp [plainName, overriddenIn]; done) | decide +kernel
def Q2 (Z : State) (ob : Addr) (u3 u4 u5 : Addr) (r : Int32) (h0 : Heap) (n0 : Nat) (v : Option Value) (h : Heap) (L : List Loc) : Prop := v = some (.int r) ∧ Fr n0 L ∧ h = h0
set_option maxRecDepth 65536 in
set_option maxHeartbeats 40000000 in
theorem rm2 (l : Launch) (Z : State) (a0 : Array Value) (hw : ∀ d ∈ tables_1, d.before a0 Z = true) (ws : List Jvm.Cond) (ob : Addr) (u3 u4 u5 : Addr) (r : Int32) (h0 : Heap) (n0 : Nat) (Z0 : n0 ≤ h0.size) (S3 : Sta Z h0 "com/example/semijoin/semijoin/jpql/Block$Use" "NOT_EXISTS" "Lcom/example/semijoin/semijoin/jpql/Block$Use;" (.ref u3)) (S4 : Sta Z h0 "com/example/semijoin/semijoin/jpql/Block$Use" "EXCLUDED" "Lcom/example/semijoin/semijoin/jpql/Block$Use;" (.ref u4)) (S5 : Sta Z h0 "com/example/semijoin/semijoin/jpql/Block$Use" "SCALAR" "Lcom/example/semijoin/semijoin/jpql/Block$Use;" (.ref u5)) (hr : (if ob = u3 ∨ ob = u4 ∨ ob = u5 then (1 : Int32) else (0 : Int32)) = r) :
    MetFree l (⟨"com/example/semijoin/semijoin/jpql/Block$Use", "keepsUnmatchedRows", "()Z"⟩ : MethodName) (head1 (Jvm.Cond.code (⟨"com/example/semijoin/semijoin/jpql/Block$Use", "keepsUnmatchedRows", "()Z"⟩ : MethodName) prog_35_method_4_code 1 (some .boolean) :: ws) ({ frames := 0, cells := 0, slots := 0, locals := 0 } : Room)) (fun a U => a = #[(.ref ob)] ∧ Z.Warmed39 U.vm ∧ U.heap = h0) (fun _ _ _ _ _ => True) (fun _ U o U' => ∃ v L, o = .returned v ∧ Q2 Z ob u3 u4 u5 r h0 n0 v U'.heap L ∧ FrameEnd U o U' L ({ frames := 0, cells := 0, slots := 0, locals := 0 } : Room).cells ({ frames := 0, cells := 0, slots := 0, locals := 0 } : Room).slots) := by
  refine MetFree.of_bodySF (plainFor_of_name pn_1) hisR ?_
  intro p e s0 m args below meth c s₁ Bd hml0 hP hK
  obtain ⟨rfl, hZ, hh⟩ := hP
  have hx := Bd.exec
  have hby := Bd.bytes
  have hml : c.maxLocals = 1 := hml0
  have hown : s0.vm.findClass "com/example/semijoin/semijoin/jpql/Block$Use" = some m.cls := findClass_of_methodNamed Bd.named
  have hnm := (name_of_methodNamed Bd.named Bd.method).1
  have X0 : Stand p l e ({ frames := 0, cells := 0, slots := 0, locals := 0 } : Room) s0 m #[(.ref ob)] below meth c s₁ [] 0 0 := Stand.of_body Bd
  have e0 : s₁.heap = h0 := by rw [← hh, Bd.state]; rfl
  have N0 := Fr.nil n0
  have pre0 : ∀ t, Steps p.tables e below (s₁.setTop (mkF m 0 #[.val (.ref ob)] [])) t → Steps p.tables e below (s₁.setTop (entryFrame m #[(.ref ob)] 1)) t := fun t k => castTop (ef_rm2 m ob) k
  obtain ⟨T1, X1, e1, st1⟩ := getS2 X0 hx hZ hown (host := "") (Or.inl (hw _ (List.mem_of_getElem? (i := 14) rfl))) Via.refl e0 S3 (g := (mkF m 1 #[.val (.ref ob)] [(.ref ob)])) rfl (hb hby d2_1)
  have pre2 : ∀ t, Steps p.tables e below (T1.setTop (mkF m 4 #[.val (.ref ob)] [(.ref u3), (.ref ob)])) t → Steps p.tables e below (s₁.setTop (entryFrame m #[(.ref ob)] 1)) t := fun t k => by
    refine pre0 t ?_
    show Steps p.tables e below (s₁.setTop (mkF m 0 #[.val (.ref ob)] [])) _
    refine XS.aloadN X0.here hx rfl (hb hby d2_0) rfl rfl ?_
    show Steps p.tables e below (s₁.setTop (mkF m 1 #[.val (.ref ob)] [(.ref ob)])) _
    refine st1 _ ?_
    exact k
  by_cases ha4_3 : ob = u3
  · have pre4 : ∀ t, Steps p.tables e below (T1.setTop (mkF m 26 #[.val (.ref ob)] [(.int (1 : Int32))])) t → Steps p.tables e below (s₁.setTop (entryFrame m #[(.ref ob)] 1)) t := fun t k => by
      refine pre2 t ?_
      show Steps p.tables e below (T1.setTop (mkF m 4 #[.val (.ref ob)] [(.ref u3), (.ref ob)])) _
      refine Jvm.RoadKit.acmp (g := (mkF m 4 #[.val (.ref ob)] [(.ref u3), (.ref ob)])) X1 hx rfl rfl rfl (pc0 := 4) (pc' := 21) (same := true) rfl (hb hby d2_4) rfl (decide_eq_true (congrArg Value.ref ha4_3)) (by decide) (by decide) ?_
      show Steps p.tables e below (T1.setTop (mkF m 21 #[.val (.ref ob)] [])) _
      refine XS.iconst X1.here hx rfl (hb hby d2_21) ?_
      show Steps p.tables e below (T1.setTop (mkF m 22 #[.val (.ref ob)] [(.int (1 : Int32))])) _
      refine XS.goto X1.here hx rfl (pc0 := 22) (pc' := 26) rfl (hb hby d2_22) (by decide) (by decide) ?_
      exact k
    obtain ⟨fs, hrq, hrun, hended, hW, hsame⟩ := X1.leave (v := some (.int (1 : Int32))) (fun h => by rw [Bd.returns] at h; cases h)
    refine ⟨_, _, pre4 _ ?_, hrun, hended, _, _, rfl, ?_, ⟨_, rfl⟩, hW, hsame.mono (by decide) (by decide)⟩
    · show Steps p.tables e below (T1.setTop (mkF m 26 #[.val (.ref ob)] [(.int (1 : Int32))])) _
      exact retN X1 hx (t := .boolean) Bd.returns (by simp) (hb hby d2_26) hrq
    · show Q2 Z ob u3 u4 u5 r h0 n0 _ T1.heap _
      rw [e1]
      exact ⟨by rw [← hr]; simp [ha4_3], N0, rfl⟩
  · obtain ⟨T5, X5, e5, st5⟩ := getS2 X1 hx hZ hown (host := "") (Or.inl (hw _ (List.mem_of_getElem? (i := 16) rfl))) Via.refl e1 S4 (g := (mkF m 8 #[.val (.ref ob)] [(.ref ob)])) rfl (hb hby d2_8)
    have pre6 : ∀ t, Steps p.tables e below (T5.setTop (mkF m 11 #[.val (.ref ob)] [(.ref u4), (.ref ob)])) t → Steps p.tables e below (s₁.setTop (entryFrame m #[(.ref ob)] 1)) t := fun t k => by
      refine pre2 t ?_
      show Steps p.tables e below (T1.setTop (mkF m 4 #[.val (.ref ob)] [(.ref u3), (.ref ob)])) _
      refine Jvm.RoadKit.acmp (g := (mkF m 4 #[.val (.ref ob)] [(.ref u3), (.ref ob)])) X1 hx rfl rfl rfl (pc0 := 4) (pc' := 7) (same := false) rfl (hb hby d2_4) rfl (decide_eq_false fun q => ha4_3 (Value.ref.inj q)) (by decide) (by decide) ?_
      show Steps p.tables e below (T1.setTop (mkF m 7 #[.val (.ref ob)] [])) _
      refine XS.aloadN X1.here hx rfl (hb hby d2_7) rfl rfl ?_
      show Steps p.tables e below (T1.setTop (mkF m 8 #[.val (.ref ob)] [(.ref ob)])) _
      refine st5 _ ?_
      exact k
    by_cases ha11_7 : ob = u4
    · have pre8 : ∀ t, Steps p.tables e below (T5.setTop (mkF m 26 #[.val (.ref ob)] [(.int (1 : Int32))])) t → Steps p.tables e below (s₁.setTop (entryFrame m #[(.ref ob)] 1)) t := fun t k => by
        refine pre6 t ?_
        show Steps p.tables e below (T5.setTop (mkF m 11 #[.val (.ref ob)] [(.ref u4), (.ref ob)])) _
        refine Jvm.RoadKit.acmp (g := (mkF m 11 #[.val (.ref ob)] [(.ref u4), (.ref ob)])) X5 hx rfl rfl rfl (pc0 := 11) (pc' := 21) (same := true) rfl (hb hby d2_11) rfl (decide_eq_true (congrArg Value.ref ha11_7)) (by decide) (by decide) ?_
        show Steps p.tables e below (T5.setTop (mkF m 21 #[.val (.ref ob)] [])) _
        refine XS.iconst X5.here hx rfl (hb hby d2_21) ?_
        show Steps p.tables e below (T5.setTop (mkF m 22 #[.val (.ref ob)] [(.int (1 : Int32))])) _
        refine XS.goto X5.here hx rfl (pc0 := 22) (pc' := 26) rfl (hb hby d2_22) (by decide) (by decide) ?_
        exact k
      obtain ⟨fs, hrq, hrun, hended, hW, hsame⟩ := X5.leave (v := some (.int (1 : Int32))) (fun h => by rw [Bd.returns] at h; cases h)
      refine ⟨_, _, pre8 _ ?_, hrun, hended, _, _, rfl, ?_, ⟨_, rfl⟩, hW, hsame.mono (by decide) (by decide)⟩
      · show Steps p.tables e below (T5.setTop (mkF m 26 #[.val (.ref ob)] [(.int (1 : Int32))])) _
        exact retN X5 hx (t := .boolean) Bd.returns (by simp) (hb hby d2_26) hrq
      · show Q2 Z ob u3 u4 u5 r h0 n0 _ T5.heap _
        rw [e5]
        exact ⟨by rw [← hr]; simp [ha4_3, ha11_7], N0, rfl⟩
    · obtain ⟨T9, X9, e9, st9⟩ := getS2 X5 hx hZ hown (host := "") (Or.inl (hw _ (List.mem_of_getElem? (i := 18) rfl))) Via.refl e5 S5 (g := (mkF m 15 #[.val (.ref ob)] [(.ref ob)])) rfl (hb hby d2_15)
      have pre10 : ∀ t, Steps p.tables e below (T9.setTop (mkF m 18 #[.val (.ref ob)] [(.ref u5), (.ref ob)])) t → Steps p.tables e below (s₁.setTop (entryFrame m #[(.ref ob)] 1)) t := fun t k => by
        refine pre6 t ?_
        show Steps p.tables e below (T5.setTop (mkF m 11 #[.val (.ref ob)] [(.ref u4), (.ref ob)])) _
        refine Jvm.RoadKit.acmp (g := (mkF m 11 #[.val (.ref ob)] [(.ref u4), (.ref ob)])) X5 hx rfl rfl rfl (pc0 := 11) (pc' := 14) (same := false) rfl (hb hby d2_11) rfl (decide_eq_false fun q => ha11_7 (Value.ref.inj q)) (by decide) (by decide) ?_
        show Steps p.tables e below (T5.setTop (mkF m 14 #[.val (.ref ob)] [])) _
        refine XS.aloadN X5.here hx rfl (hb hby d2_14) rfl rfl ?_
        show Steps p.tables e below (T5.setTop (mkF m 15 #[.val (.ref ob)] [(.ref ob)])) _
        refine st9 _ ?_
        exact k
      by_cases ha18_11 : ob = u5
      · have pre12 : ∀ t, Steps p.tables e below (T9.setTop (mkF m 26 #[.val (.ref ob)] [(.int (1 : Int32))])) t → Steps p.tables e below (s₁.setTop (entryFrame m #[(.ref ob)] 1)) t := fun t k => by
          refine pre10 t ?_
          show Steps p.tables e below (T9.setTop (mkF m 18 #[.val (.ref ob)] [(.ref u5), (.ref ob)])) _
          refine Jvm.RoadKit.acmp (g := (mkF m 18 #[.val (.ref ob)] [(.ref u5), (.ref ob)])) X9 hx rfl rfl rfl (pc0 := 18) (pc' := 21) (same := true) rfl (hb hby d2_18) rfl (decide_eq_true (congrArg Value.ref ha18_11)) (by decide) (by decide) ?_
          show Steps p.tables e below (T9.setTop (mkF m 21 #[.val (.ref ob)] [])) _
          refine XS.iconst X9.here hx rfl (hb hby d2_21) ?_
          show Steps p.tables e below (T9.setTop (mkF m 22 #[.val (.ref ob)] [(.int (1 : Int32))])) _
          refine XS.goto X9.here hx rfl (pc0 := 22) (pc' := 26) rfl (hb hby d2_22) (by decide) (by decide) ?_
          exact k
        obtain ⟨fs, hrq, hrun, hended, hW, hsame⟩ := X9.leave (v := some (.int (1 : Int32))) (fun h => by rw [Bd.returns] at h; cases h)
        refine ⟨_, _, pre12 _ ?_, hrun, hended, _, _, rfl, ?_, ⟨_, rfl⟩, hW, hsame.mono (by decide) (by decide)⟩
        · show Steps p.tables e below (T9.setTop (mkF m 26 #[.val (.ref ob)] [(.int (1 : Int32))])) _
          exact retN X9 hx (t := .boolean) Bd.returns (by simp) (hb hby d2_26) hrq
        · show Q2 Z ob u3 u4 u5 r h0 n0 _ T9.heap _
          rw [e9]
          exact ⟨by rw [← hr]; simp [ha4_3, ha11_7, ha18_11], N0, rfl⟩
      · have pre13 : ∀ t, Steps p.tables e below (T9.setTop (mkF m 26 #[.val (.ref ob)] [(.int (0 : Int32))])) t → Steps p.tables e below (s₁.setTop (entryFrame m #[(.ref ob)] 1)) t := fun t k => by
          refine pre10 t ?_
          show Steps p.tables e below (T9.setTop (mkF m 18 #[.val (.ref ob)] [(.ref u5), (.ref ob)])) _
          refine Jvm.RoadKit.acmp (g := (mkF m 18 #[.val (.ref ob)] [(.ref u5), (.ref ob)])) X9 hx rfl rfl rfl (pc0 := 18) (pc' := 25) (same := false) rfl (hb hby d2_18) rfl (decide_eq_false fun q => ha18_11 (Value.ref.inj q)) (by decide) (by decide) ?_
          show Steps p.tables e below (T9.setTop (mkF m 25 #[.val (.ref ob)] [])) _
          refine XS.iconst X9.here hx rfl (hb hby d2_25) ?_
          exact k
        obtain ⟨fs, hrq, hrun, hended, hW, hsame⟩ := X9.leave (v := some (.int (0 : Int32))) (fun h => by rw [Bd.returns] at h; cases h)
        refine ⟨_, _, pre13 _ ?_, hrun, hended, _, _, rfl, ?_, ⟨_, rfl⟩, hW, hsame.mono (by decide) (by decide)⟩
        · show Steps p.tables e below (T9.setTop (mkF m 26 #[.val (.ref ob)] [(.int (0 : Int32))])) _
          exact retN X9 hx (t := .boolean) Bd.returns (by simp) (hb hby d2_26) hrq
        · show Q2 Z ob u3 u4 u5 r h0 n0 _ T9.heap _
          rw [e9]
          exact ⟨by rw [← hr]; simp [ha4_3, ha11_7, ha18_11], N0, rfl⟩
theorem pd_0 : parseMethodDescriptor "(I)Lcom/example/semijoin/semijoin/jpql/Block$Use;" = some ⟨[.int], some (.object "com/example/semijoin/semijoin/jpql/Block$Use")⟩ := by decide +kernel
theorem pd_1 : parseMethodDescriptor "()Z" = some ⟨[], some .boolean⟩ := by decide +kernel
theorem ef_rm0 (m : MethodId) (x0 : Int32) : entryFrame m #[(.int x0)] maxLocals = mkF m 0 #[.val (.int x0), .unset, .unset, .unset] [] := by first | (simp [entryFrame, mkF, argsToLocals, Value.category, maxLocals]; done) | rfl
def Q0 (Z : State) (p0 : Int32) (u0 u1 u2 u3 u4 u5 : Addr) (h0 : Heap) (n0 : Nat) (v : Option Value) (h : Heap) (L : List Loc) : Prop := v = some (.int 1) ∧ Fr n0 L
set_option maxRecDepth 65536 in
set_option maxHeartbeats 40000000 in
theorem rm0 (l : Launch) (Z : State) (a0 : Array Value) (hw : ∀ d ∈ tables_1, d.before a0 Z = true) (ws : List Jvm.Cond) (p0 : Int32) (u0 u1 u2 u3 u4 u5 : Addr) (h0 : Heap) (n0 : Nat) (Z0 : n0 ≤ h0.size) (S0 : Sta Z h0 "com/example/semijoin/semijoin/jpql/Block$Use" "QUERY" "Lcom/example/semijoin/semijoin/jpql/Block$Use;" (.ref u0)) (E0 : Exa Z h0 u0 "com/example/semijoin/semijoin/jpql/Block$Use") (S1 : Sta Z h0 "com/example/semijoin/semijoin/jpql/Block$Use" "VALUES" "Lcom/example/semijoin/semijoin/jpql/Block$Use;" (.ref u1)) (E1 : Exa Z h0 u1 "com/example/semijoin/semijoin/jpql/Block$Use") (S2 : Sta Z h0 "com/example/semijoin/semijoin/jpql/Block$Use" "EXISTS" "Lcom/example/semijoin/semijoin/jpql/Block$Use;" (.ref u2)) (E2 : Exa Z h0 u2 "com/example/semijoin/semijoin/jpql/Block$Use") (S3 : Sta Z h0 "com/example/semijoin/semijoin/jpql/Block$Use" "NOT_EXISTS" "Lcom/example/semijoin/semijoin/jpql/Block$Use;" (.ref u3)) (E3 : Exa Z h0 u3 "com/example/semijoin/semijoin/jpql/Block$Use") (S4 : Sta Z h0 "com/example/semijoin/semijoin/jpql/Block$Use" "EXCLUDED" "Lcom/example/semijoin/semijoin/jpql/Block$Use;" (.ref u4)) (E4 : Exa Z h0 u4 "com/example/semijoin/semijoin/jpql/Block$Use") (S5 : Sta Z h0 "com/example/semijoin/semijoin/jpql/Block$Use" "SCALAR" "Lcom/example/semijoin/semijoin/jpql/Block$Use;" (.ref u5)) (E5 : Exa Z h0 u5 "com/example/semijoin/semijoin/jpql/Block$Use") (d03 : ¬ u0 = u3) (d04 : ¬ u0 = u4) (d05 : ¬ u0 = u5) (d13 : ¬ u1 = u3) (d14 : ¬ u1 = u4) (d15 : ¬ u1 = u5) (d23 : ¬ u2 = u3) (d24 : ¬ u2 = u4) (d25 : ¬ u2 = u5) :
    MetFree l x (head1 (Jvm.Cond.code x code maxLocals ret :: ws) room_1) (fun a U => a = #[(.int p0)] ∧ Z.Warmed39 U.vm ∧ U.heap = h0) (fun _ _ _ _ _ => True) (fun _ U o U' => ∃ v L, o = .returned v ∧ Q0 Z p0 u0 u1 u2 u3 u4 u5 h0 n0 v U'.heap L ∧ FrameEnd U o U' L room_1.cells room_1.slots) := by
  refine MetFree.of_bodySF (plainFor_of_name pn_0) hisR ?_
  intro p e s0 m args below meth c s₁ Bd hml0 hP hK
  obtain ⟨rfl, hZ, hh⟩ := hP
  have hx := Bd.exec
  have hby := Bd.bytes
  have hml : c.maxLocals = 4 := hml0
  have hown : s0.vm.findClass "com/example/semijoin/semijoin/jpql/UseKeepsUnmatchedRowsPinLaw" = some m.cls := findClass_of_methodNamed Bd.named
  have hnm := (name_of_methodNamed Bd.named Bd.method).1
  have X0 : Stand p l e room_1 s0 m #[(.int p0)] below meth c s₁ [] 0 0 := Stand.of_body Bd
  have e0 : s₁.heap = h0 := by rw [← hh, Bd.state]; rfl
  have N0 := Fr.nil n0
  have pre0 : ∀ t, Steps p.tables e below (s₁.setTop (mkF m 0 #[.val (.int p0), .unset, .unset, .unset] [])) t → Steps p.tables e below (s₁.setTop (entryFrame m #[(.int p0)] maxLocals)) t := fun t k => castTop (ef_rm0 m p0) k
  obtain ⟨T1, kk, Lx1, X1, e1, N1, hk, pre1⟩ : ∃ (T1 : State) (kk : Int32) (Lx1 : List Loc), Stand p l e room_1 s0 m #[(.int p0)] below meth c T1 Lx1 0 0 ∧ T1.heap = h0 ∧ Fr n0 Lx1 ∧ (kk = 0 ∨ kk = 1 ∨ kk = 2 ∨ kk = 3 ∨ kk = 4 ∨ kk = 5) ∧ (∀ t, Steps p.tables e below (T1.setTop (mkF m 7 #[.val (.int p0), .unset, .unset, .unset] [(.int kk)])) t → Steps p.tables e below (s₁.setTop (entryFrame m #[(.int p0)] maxLocals)) t) := by
    have pre2 : ∀ t, Steps p.tables e below (s₁.setTop (mkF m 7 #[.val (.int p0), .unset, .unset, .unset] [(.int ((p0 &&& (2147483647 : Int32)) % (6 : Int32)))])) t → Steps p.tables e below (s₁.setTop (entryFrame m #[(.int p0)] maxLocals)) t := fun t k => by
      refine pre0 t ?_
      show Steps p.tables e below (s₁.setTop (mkF m 0 #[.val (.int p0), .unset, .unset, .unset] [])) _
      refine XS.iloadN X0.here hx rfl (hb hby at_0) rfl ?_
      show Steps p.tables e below (s₁.setTop (mkF m 1 #[.val (.int p0), .unset, .unset, .unset] [(.int p0)])) _
      refine X0.ldcInt hx hown (mvT hZ (hw _ (List.mem_of_getElem? (i := 0) rfl))) (g := (mkF m 1 #[.val (.int p0), .unset, .unset, .unset] [(.int p0)])) rfl (hb hby at_1) _ ?_
      show Steps p.tables e below (s₁.setTop (mkF m 3 #[.val (.int p0), .unset, .unset, .unset] [(.int (2147483647 : Int32)), (.int p0)])) _
      refine XS.iand X0.here hx rfl (hb hby at_3) rfl ?_
      show Steps p.tables e below (s₁.setTop (mkF m 4 #[.val (.int p0), .unset, .unset, .unset] [(.int (p0 &&& (2147483647 : Int32)))])) _
      refine XS.bipush X0.here hx rfl (hb hby at_4) ?_
      show Steps p.tables e below (s₁.setTop (mkF m 6 #[.val (.int p0), .unset, .unset, .unset] [(.int (6 : Int32)), (.int (p0 &&& (2147483647 : Int32)))])) _
      refine iremM X0 hx rfl (hb hby at_6) rfl (by decide) ?_
      exact k
    exact ⟨s₁, ((p0 &&& (2147483647 : Int32)) % (6 : Int32)), _, X0, e0, N0, own_k6 p0, pre2⟩
  rcases hk with rfl | rfl | rfl | rfl | rfl | rfl
  · obtain ⟨_, _, ⟨T3, L3, k3, n3⟩, -, X3, ⟨Lc3, hQ3, l3, y3, z3⟩, st3⟩ := Jvm.LawKit.callS X1 hx (y := (⟨"com/example/semijoin/semijoin/jpql/UseKeepsUnmatchedRowsPinLaw", "useAt", "(I)Lcom/example/semijoin/semijoin/jpql/Block$Use;"⟩ : MethodName)) hown (mvT hZ (hw _ (List.mem_of_getElem? (i := 1) rfl))) (mvT hZ (hw _ (List.mem_of_getElem? (i := 2) rfl))) (mvT hZ (hw _ (List.mem_of_getElem? (i := 3) rfl))) (mvT hZ (hw _ (List.mem_of_getElem? (i := 4) rfl))) (by decide) (backOf (W := 0) (rm1 l Z a0 hw [] (0 : Int32) u0 u1 u2 u3 u4 u5 u0 h0 n0 Z0 S0 S1 S2 S3 S4 S5 (by simp [own_sel])) hZ (hw _ (List.mem_of_getElem? (i := 4) rfl)) (hw _ (List.mem_of_getElem? (i := 3) rfl)) (by decide) (by decide)) (g := (mkF m 9 #[.val (.int p0), .val (.int (0 : Int32)), .unset, .unset] [(.int (0 : Int32))])) rfl (by rw [hml]; rfl) (argsL := [(.int (0 : Int32))]) (rest := []) (lenOf pd_0 rfl) rfl (by show 2 * 0 + _ ≤ _; exact Nat.le_of_eq rfl) (hb hby at_9) (fun _ _ => ⟨rfl, e1, (by decide : 0 + 0 ≤ _), (by decide : 0 + 0 ≤ _)⟩)
    dsimp only [Pt.U, Pt.locs, Pt.cells, Pt.slots] at X3 l3 y3 z3 st3 hQ3
    subst l3 y3 z3
    obtain ⟨rfl, Nq3, hh3⟩ := hQ3
    have N3 := Fr.app N1 Nq3
    have e3 : T3.heap = h0 := hh3
    obtain ⟨T4, h4, k4, X4, e4, E4, A4, st4⟩ := newP X3 hx hZ (hw _ (List.mem_of_getElem? (i := 8) rfl)) e3 (g := (mkF m 15 #[.val (.int p0), .val (.int (0 : Int32)), .val (.ref u0), .unset] [(.int (6 : Int32))])) rfl (hb hby at_15) rfl (by decide) (cap := 6) (by decide) (by decide) (by decide) (by decide)
    obtain ⟨b4, g4⟩ : ∃ z, z = h0.size := ⟨_, rfl⟩
    rw [← g4] at A4 st4
    have g_b4 : n0 ≤ b4 := Nat.le_trans Z0 (Nat.le_of_eq g4.symm)
    have Z5 : n0 ≤ h4.size := Nat.le_trans Z0 E4.1
    have V4 : Arv Z h4 b4 k4 .boolean (6 : Int32) [(.int (0 : Int32)), (.int (0 : Int32)), (.int (0 : Int32)), (.int (0 : Int32)), (.int (0 : Int32)), (.int (0 : Int32))] (.int (0 : Int32)) := (Arv.new A4 (by decide)).pad (pad_rep [] (.int (0 : Int32)) 6)
    obtain ⟨cl6, Ar6, q6, Sz6, Nz6, Hs6, Gs6⟩ := V4
    have hin6 : ¬ ((0 : Int32) < 0 ∨ cl6.slots.size ≤ ((0 : Int32)).toNatClampNeg) := inb_of Sz6 ⟨by decide, by decide⟩
    obtain ⟨T7, h7, X7, e7, W7, st7⟩ := stZ X4 hx hZ e4 Ar6 (j := (0 : Int32)) hin6 (g := (mkF m 20 #[.val (.int p0), .val (.int (0 : Int32)), .val (.ref u0), .unset] [(.int (0 : Int32)), (.int (0 : Int32)), (.ref b4), (.ref b4)])) rfl rfl (hb hby at_20)
    have V7 : Arv Z h7 b4 k4 .boolean (6 : Int32) [(.int (nar .boolean (0 : Int32))), (.int (0 : Int32)), (.int (0 : Int32)), (.int (0 : Int32)), (.int (0 : Int32)), (.int (0 : Int32))] (.int (0 : Int32)) := Arv.set Ar6 q6 Sz6 Nz6 Hs6 Gs6 (fits_nar_bool _) W7 0 rfl (Nat.le_of_ble_eq_true rfl)
    have Z8 : n0 ≤ h7.size := Nat.le_trans Z5 (Keep.of_wr W7).1
    have N7 := Fr.snoc X7 N3 g_b4
    obtain ⟨cl9, Ar9, q9, Sz9, Nz9, Hs9, Gs9⟩ := V7
    have hin9 : ¬ ((1 : Int32) < 0 ∨ cl9.slots.size ≤ ((1 : Int32)).toNatClampNeg) := inb_of Sz9 ⟨by decide, by decide⟩
    obtain ⟨T10, h10, X10, e10, W10, st10⟩ := stZ X7 hx hZ e7 Ar9 (j := (1 : Int32)) hin9 (g := (mkF m 24 #[.val (.int p0), .val (.int (0 : Int32)), .val (.ref u0), .unset] [(.int (0 : Int32)), (.int (1 : Int32)), (.ref b4), (.ref b4)])) rfl rfl (hb hby at_24)
    have V10 : Arv Z h10 b4 k4 .boolean (6 : Int32) [(.int (nar .boolean (0 : Int32))), (.int (nar .boolean (0 : Int32))), (.int (0 : Int32)), (.int (0 : Int32)), (.int (0 : Int32)), (.int (0 : Int32))] (.int (0 : Int32)) := Arv.set Ar9 q9 Sz9 Nz9 Hs9 Gs9 (fits_nar_bool _) W10 1 rfl (Nat.le_of_ble_eq_true rfl)
    have Z11 : n0 ≤ h10.size := Nat.le_trans Z8 (Keep.of_wr W10).1
    have N10 := Fr.snoc X10 N7 g_b4
    obtain ⟨cl12, Ar12, q12, Sz12, Nz12, Hs12, Gs12⟩ := V10
    have hin12 : ¬ ((2 : Int32) < 0 ∨ cl12.slots.size ≤ ((2 : Int32)).toNatClampNeg) := inb_of Sz12 ⟨by decide, by decide⟩
    obtain ⟨T13, h13, X13, e13, W13, st13⟩ := stZ X10 hx hZ e10 Ar12 (j := (2 : Int32)) hin12 (g := (mkF m 28 #[.val (.int p0), .val (.int (0 : Int32)), .val (.ref u0), .unset] [(.int (0 : Int32)), (.int (2 : Int32)), (.ref b4), (.ref b4)])) rfl rfl (hb hby at_28)
    have V13 : Arv Z h13 b4 k4 .boolean (6 : Int32) [(.int (nar .boolean (0 : Int32))), (.int (nar .boolean (0 : Int32))), (.int (nar .boolean (0 : Int32))), (.int (0 : Int32)), (.int (0 : Int32)), (.int (0 : Int32))] (.int (0 : Int32)) := Arv.set Ar12 q12 Sz12 Nz12 Hs12 Gs12 (fits_nar_bool _) W13 2 rfl (Nat.le_of_ble_eq_true rfl)
    have Z14 : n0 ≤ h13.size := Nat.le_trans Z11 (Keep.of_wr W13).1
    have N13 := Fr.snoc X13 N10 g_b4
    obtain ⟨cl15, Ar15, q15, Sz15, Nz15, Hs15, Gs15⟩ := V13
    have hin15 : ¬ ((3 : Int32) < 0 ∨ cl15.slots.size ≤ ((3 : Int32)).toNatClampNeg) := inb_of Sz15 ⟨by decide, by decide⟩
    obtain ⟨T16, h16, X16, e16, W16, st16⟩ := stZ X13 hx hZ e13 Ar15 (j := (3 : Int32)) hin15 (g := (mkF m 32 #[.val (.int p0), .val (.int (0 : Int32)), .val (.ref u0), .unset] [(.int (1 : Int32)), (.int (3 : Int32)), (.ref b4), (.ref b4)])) rfl rfl (hb hby at_32)
    have V16 : Arv Z h16 b4 k4 .boolean (6 : Int32) [(.int (nar .boolean (0 : Int32))), (.int (nar .boolean (0 : Int32))), (.int (nar .boolean (0 : Int32))), (.int (nar .boolean (1 : Int32))), (.int (0 : Int32)), (.int (0 : Int32))] (.int (0 : Int32)) := Arv.set Ar15 q15 Sz15 Nz15 Hs15 Gs15 (fits_nar_bool _) W16 3 rfl (Nat.le_of_ble_eq_true rfl)
    have Z17 : n0 ≤ h16.size := Nat.le_trans Z14 (Keep.of_wr W16).1
    have N16 := Fr.snoc X16 N13 g_b4
    obtain ⟨cl18, Ar18, q18, Sz18, Nz18, Hs18, Gs18⟩ := V16
    have hin18 : ¬ ((4 : Int32) < 0 ∨ cl18.slots.size ≤ ((4 : Int32)).toNatClampNeg) := inb_of Sz18 ⟨by decide, by decide⟩
    obtain ⟨T19, h19, X19, e19, W19, st19⟩ := stZ X16 hx hZ e16 Ar18 (j := (4 : Int32)) hin18 (g := (mkF m 36 #[.val (.int p0), .val (.int (0 : Int32)), .val (.ref u0), .unset] [(.int (1 : Int32)), (.int (4 : Int32)), (.ref b4), (.ref b4)])) rfl rfl (hb hby at_36)
    have V19 : Arv Z h19 b4 k4 .boolean (6 : Int32) [(.int (nar .boolean (0 : Int32))), (.int (nar .boolean (0 : Int32))), (.int (nar .boolean (0 : Int32))), (.int (nar .boolean (1 : Int32))), (.int (nar .boolean (1 : Int32))), (.int (0 : Int32))] (.int (0 : Int32)) := Arv.set Ar18 q18 Sz18 Nz18 Hs18 Gs18 (fits_nar_bool _) W19 4 rfl (Nat.le_of_ble_eq_true rfl)
    have Z20 : n0 ≤ h19.size := Nat.le_trans Z17 (Keep.of_wr W19).1
    have N19 := Fr.snoc X19 N16 g_b4
    obtain ⟨cl21, Ar21, q21, Sz21, Nz21, Hs21, Gs21⟩ := V19
    have hin21 : ¬ ((5 : Int32) < 0 ∨ cl21.slots.size ≤ ((5 : Int32)).toNatClampNeg) := inb_of Sz21 ⟨by decide, by decide⟩
    obtain ⟨T22, h22, X22, e22, W22, st22⟩ := stZ X19 hx hZ e19 Ar21 (j := (5 : Int32)) hin21 (g := (mkF m 40 #[.val (.int p0), .val (.int (0 : Int32)), .val (.ref u0), .unset] [(.int (1 : Int32)), (.int (5 : Int32)), (.ref b4), (.ref b4)])) rfl rfl (hb hby at_40)
    have V22 : Arv Z h22 b4 k4 .boolean (6 : Int32) [(.int (nar .boolean (0 : Int32))), (.int (nar .boolean (0 : Int32))), (.int (nar .boolean (0 : Int32))), (.int (nar .boolean (1 : Int32))), (.int (nar .boolean (1 : Int32))), (.int (nar .boolean (1 : Int32)))] (.int (0 : Int32)) := Arv.set Ar21 q21 Sz21 Nz21 Hs21 Gs21 (fits_nar_bool _) W22 5 rfl (Nat.le_of_ble_eq_true rfl)
    have Z23 : n0 ≤ h22.size := Nat.le_trans Z20 (Keep.of_wr W22).1
    have N22 := Fr.snoc X22 N19 g_b4
    have c24 : Sta Z h22 "com/example/semijoin/semijoin/jpql/Block$Use" "NOT_EXISTS" "Lcom/example/semijoin/semijoin/jpql/Block$Use;" (.ref u3) := (((((((S3.ext E4).wr W7).wr W10).wr W13).wr W16).wr W19).wr W22)
    have c25 : Sta Z h22 "com/example/semijoin/semijoin/jpql/Block$Use" "EXCLUDED" "Lcom/example/semijoin/semijoin/jpql/Block$Use;" (.ref u4) := (((((((S4.ext E4).wr W7).wr W10).wr W13).wr W16).wr W19).wr W22)
    have c26 : Sta Z h22 "com/example/semijoin/semijoin/jpql/Block$Use" "SCALAR" "Lcom/example/semijoin/semijoin/jpql/Block$Use;" (.ref u5) := (((((((S5.ext E4).wr W7).wr W10).wr W13).wr W16).wr W19).wr W22)
    have c28 : Exa Z h22 u0 "com/example/semijoin/semijoin/jpql/Block$Use" := (((((((E0.ext E4).wr W7).wr W10).wr W13).wr W16).wr W19).wr W22)
    obtain ⟨cq27, kq27, q27a, q27b, q27c⟩ := isOf hZ e22 c28
    obtain ⟨_, _, ⟨T27, L27, k27, n27⟩, -, X27, ⟨Lc27, hQ27, l27, y27, z27⟩, st27⟩ := X22.virtualBack hx (y := (⟨"com/example/semijoin/semijoin/jpql/Block$Use", "keepsUnmatchedRows", "()Z"⟩ : MethodName)) (z := (⟨"com/example/semijoin/semijoin/jpql/Block$Use", "keepsUnmatchedRows", "()Z"⟩ : MethodName)) hown (mvT hZ (hw _ (List.mem_of_getElem? (i := 9) rfl))) (mvT hZ (hw _ (List.mem_of_getElem? (i := 10) rfl))) (notFace_of_selects (args := #[]) (mvT hZ (hw _ (List.mem_of_getElem? (i := 12) rfl)))) (mvT hZ (hw _ (List.mem_of_getElem? (i := 12) rfl))) (mvT hZ (hw _ (List.mem_of_getElem? (i := 11) rfl))) (by decide) (backOf (W := 0) (rm2 l Z a0 hw [] u0 u3 u4 u5 (0 : Int32) h22 n0 Z23 c24 c25 c26 (if_neg (fun h => h.elim d03 (fun h => h.elim d04 d05)))) hZ (hw _ (List.mem_of_getElem? (i := 13) rfl)) (hw _ (List.mem_of_getElem? (i := 6) rfl)) (by decide) (by decide)) q27a q27c (g := (mkF m 43 #[.val (.int p0), .val (.int (0 : Int32)), .val (.ref u0), .val (.ref b4)] [(.ref u0)])) rfl (by rw [hml]; rfl) (Steps.refl _) (argsL := []) (rest := []) (lenOf pd_1 rfl) rfl (by show 2 * 0 + _ ≤ _; exact Nat.le_of_eq rfl) (hb hby at_43) (fun _ _ => ⟨rfl, e22, (by decide : 1 + 0 ≤ _), (by decide : 6 + 0 ≤ _)⟩)
    dsimp only [Pt.U, Pt.locs, Pt.cells, Pt.slots] at X27 l27 y27 z27 st27 hQ27
    subst l27 y27 z27
    obtain ⟨rfl, Nq27, hh27⟩ := hQ27
    have N27 := Fr.app N22 Nq27
    have e27 : T27.heap = h22 := hh27
    obtain ⟨cl29, Ar29, -, Sz29, Nz29, Hs29, Gs29⟩ := V22
    have hin29 : ¬ ((0 : Int32) < 0 ∨ cl29.slots.size ≤ ((0 : Int32)).toNatClampNeg) := inb_of Sz29 ⟨by decide, by decide⟩
    have hat29 : cl29.slots[((0 : Int32)).toNatClampNeg]? = some (.int (0 : Int32)) := Hs29.at hin29 rfl
    have pre30 : ∀ t, Steps p.tables e below (T27.setTop (mkF m 57 #[.val (.int p0), .val (.int (0 : Int32)), .val (.ref u0), .val (.ref b4)] [(.int (1 : Int32))])) t → Steps p.tables e below (s₁.setTop (entryFrame m #[(.int p0)] maxLocals)) t := fun t k => by
      refine pre1 t ?_
      show Steps p.tables e below (T1.setTop (mkF m 7 #[.val (.int p0), .unset, .unset, .unset] [(.int (0 : Int32))])) _
      refine XS.istoreN X1.here hx rfl (hb hby at_7) rfl (l' := #[.val (.int p0), .val (.int (0 : Int32)), .unset, .unset]) rfl ?_
      show Steps p.tables e below (T1.setTop (mkF m 8 #[.val (.int p0), .val (.int (0 : Int32)), .unset, .unset] [])) _
      refine XS.iloadN X1.here hx rfl (hb hby at_8) rfl ?_
      show Steps p.tables e below (T1.setTop (mkF m 9 #[.val (.int p0), .val (.int (0 : Int32)), .unset, .unset] [(.int (0 : Int32))])) _
      refine st3 _ ?_
      show Steps p.tables e below (T3.setTop (mkF m 12 #[.val (.int p0), .val (.int (0 : Int32)), .unset, .unset] [(.ref u0)])) _
      refine XS.astoreN X3.here hx rfl (hb hby at_12) rfl rfl (l' := #[.val (.int p0), .val (.int (0 : Int32)), .val (.ref u0), .unset]) rfl ?_
      show Steps p.tables e below (T3.setTop (mkF m 13 #[.val (.int p0), .val (.int (0 : Int32)), .val (.ref u0), .unset] [])) _
      refine XS.bipush X3.here hx rfl (hb hby at_13) ?_
      show Steps p.tables e below (T3.setTop (mkF m 15 #[.val (.int p0), .val (.int (0 : Int32)), .val (.ref u0), .unset] [(.int (6 : Int32))])) _
      refine st4 _ ?_
      show Steps p.tables e below (T4.setTop (mkF m 17 #[.val (.int p0), .val (.int (0 : Int32)), .val (.ref u0), .unset] [(.ref b4)])) _
      refine XS.dup X4.here hx rfl (hb hby at_17) rfl rfl ?_
      show Steps p.tables e below (T4.setTop (mkF m 18 #[.val (.int p0), .val (.int (0 : Int32)), .val (.ref u0), .unset] [(.ref b4), (.ref b4)])) _
      refine XS.iconst X4.here hx rfl (hb hby at_18) ?_
      show Steps p.tables e below (T4.setTop (mkF m 19 #[.val (.int p0), .val (.int (0 : Int32)), .val (.ref u0), .unset] [(.int (0 : Int32)), (.ref b4), (.ref b4)])) _
      refine XS.iconst X4.here hx rfl (hb hby at_19) ?_
      show Steps p.tables e below (T4.setTop (mkF m 20 #[.val (.int p0), .val (.int (0 : Int32)), .val (.ref u0), .unset] [(.int (0 : Int32)), (.int (0 : Int32)), (.ref b4), (.ref b4)])) _
      refine st7 _ ?_
      show Steps p.tables e below (T7.setTop (mkF m 21 #[.val (.int p0), .val (.int (0 : Int32)), .val (.ref u0), .unset] [(.ref b4)])) _
      refine XS.dup X7.here hx rfl (hb hby at_21) rfl rfl ?_
      show Steps p.tables e below (T7.setTop (mkF m 22 #[.val (.int p0), .val (.int (0 : Int32)), .val (.ref u0), .unset] [(.ref b4), (.ref b4)])) _
      refine XS.iconst X7.here hx rfl (hb hby at_22) ?_
      show Steps p.tables e below (T7.setTop (mkF m 23 #[.val (.int p0), .val (.int (0 : Int32)), .val (.ref u0), .unset] [(.int (1 : Int32)), (.ref b4), (.ref b4)])) _
      refine XS.iconst X7.here hx rfl (hb hby at_23) ?_
      show Steps p.tables e below (T7.setTop (mkF m 24 #[.val (.int p0), .val (.int (0 : Int32)), .val (.ref u0), .unset] [(.int (0 : Int32)), (.int (1 : Int32)), (.ref b4), (.ref b4)])) _
      refine st10 _ ?_
      show Steps p.tables e below (T10.setTop (mkF m 25 #[.val (.int p0), .val (.int (0 : Int32)), .val (.ref u0), .unset] [(.ref b4)])) _
      refine XS.dup X10.here hx rfl (hb hby at_25) rfl rfl ?_
      show Steps p.tables e below (T10.setTop (mkF m 26 #[.val (.int p0), .val (.int (0 : Int32)), .val (.ref u0), .unset] [(.ref b4), (.ref b4)])) _
      refine XS.iconst X10.here hx rfl (hb hby at_26) ?_
      show Steps p.tables e below (T10.setTop (mkF m 27 #[.val (.int p0), .val (.int (0 : Int32)), .val (.ref u0), .unset] [(.int (2 : Int32)), (.ref b4), (.ref b4)])) _
      refine XS.iconst X10.here hx rfl (hb hby at_27) ?_
      show Steps p.tables e below (T10.setTop (mkF m 28 #[.val (.int p0), .val (.int (0 : Int32)), .val (.ref u0), .unset] [(.int (0 : Int32)), (.int (2 : Int32)), (.ref b4), (.ref b4)])) _
      refine st13 _ ?_
      show Steps p.tables e below (T13.setTop (mkF m 29 #[.val (.int p0), .val (.int (0 : Int32)), .val (.ref u0), .unset] [(.ref b4)])) _
      refine XS.dup X13.here hx rfl (hb hby at_29) rfl rfl ?_
      show Steps p.tables e below (T13.setTop (mkF m 30 #[.val (.int p0), .val (.int (0 : Int32)), .val (.ref u0), .unset] [(.ref b4), (.ref b4)])) _
      refine XS.iconst X13.here hx rfl (hb hby at_30) ?_
      show Steps p.tables e below (T13.setTop (mkF m 31 #[.val (.int p0), .val (.int (0 : Int32)), .val (.ref u0), .unset] [(.int (3 : Int32)), (.ref b4), (.ref b4)])) _
      refine XS.iconst X13.here hx rfl (hb hby at_31) ?_
      show Steps p.tables e below (T13.setTop (mkF m 32 #[.val (.int p0), .val (.int (0 : Int32)), .val (.ref u0), .unset] [(.int (1 : Int32)), (.int (3 : Int32)), (.ref b4), (.ref b4)])) _
      refine st16 _ ?_
      show Steps p.tables e below (T16.setTop (mkF m 33 #[.val (.int p0), .val (.int (0 : Int32)), .val (.ref u0), .unset] [(.ref b4)])) _
      refine XS.dup X16.here hx rfl (hb hby at_33) rfl rfl ?_
      show Steps p.tables e below (T16.setTop (mkF m 34 #[.val (.int p0), .val (.int (0 : Int32)), .val (.ref u0), .unset] [(.ref b4), (.ref b4)])) _
      refine XS.iconst X16.here hx rfl (hb hby at_34) ?_
      show Steps p.tables e below (T16.setTop (mkF m 35 #[.val (.int p0), .val (.int (0 : Int32)), .val (.ref u0), .unset] [(.int (4 : Int32)), (.ref b4), (.ref b4)])) _
      refine XS.iconst X16.here hx rfl (hb hby at_35) ?_
      show Steps p.tables e below (T16.setTop (mkF m 36 #[.val (.int p0), .val (.int (0 : Int32)), .val (.ref u0), .unset] [(.int (1 : Int32)), (.int (4 : Int32)), (.ref b4), (.ref b4)])) _
      refine st19 _ ?_
      show Steps p.tables e below (T19.setTop (mkF m 37 #[.val (.int p0), .val (.int (0 : Int32)), .val (.ref u0), .unset] [(.ref b4)])) _
      refine XS.dup X19.here hx rfl (hb hby at_37) rfl rfl ?_
      show Steps p.tables e below (T19.setTop (mkF m 38 #[.val (.int p0), .val (.int (0 : Int32)), .val (.ref u0), .unset] [(.ref b4), (.ref b4)])) _
      refine XS.iconst X19.here hx rfl (hb hby at_38) ?_
      show Steps p.tables e below (T19.setTop (mkF m 39 #[.val (.int p0), .val (.int (0 : Int32)), .val (.ref u0), .unset] [(.int (5 : Int32)), (.ref b4), (.ref b4)])) _
      refine XS.iconst X19.here hx rfl (hb hby at_39) ?_
      show Steps p.tables e below (T19.setTop (mkF m 40 #[.val (.int p0), .val (.int (0 : Int32)), .val (.ref u0), .unset] [(.int (1 : Int32)), (.int (5 : Int32)), (.ref b4), (.ref b4)])) _
      refine st22 _ ?_
      show Steps p.tables e below (T22.setTop (mkF m 41 #[.val (.int p0), .val (.int (0 : Int32)), .val (.ref u0), .unset] [(.ref b4)])) _
      refine XS.astoreN X22.here hx rfl (hb hby at_41) rfl rfl (l' := #[.val (.int p0), .val (.int (0 : Int32)), .val (.ref u0), .val (.ref b4)]) rfl ?_
      show Steps p.tables e below (T22.setTop (mkF m 42 #[.val (.int p0), .val (.int (0 : Int32)), .val (.ref u0), .val (.ref b4)] [])) _
      refine XS.aloadN X22.here hx rfl (hb hby at_42) rfl rfl ?_
      show Steps p.tables e below (T22.setTop (mkF m 43 #[.val (.int p0), .val (.int (0 : Int32)), .val (.ref u0), .val (.ref b4)] [(.ref u0)])) _
      refine st27.trans ?_
      show Steps p.tables e below (T27.setTop (mkF m 46 #[.val (.int p0), .val (.int (0 : Int32)), .val (.ref u0), .val (.ref b4)] [(.int (0 : Int32))])) _
      refine XS.aloadN X27.here hx rfl (hb hby at_46) rfl rfl ?_
      show Steps p.tables e below (T27.setTop (mkF m 47 #[.val (.int p0), .val (.int (0 : Int32)), .val (.ref u0), .val (.ref b4)] [(.ref b4), (.int (0 : Int32))])) _
      refine XS.iloadN X27.here hx rfl (hb hby at_47) rfl ?_
      show Steps p.tables e below (T27.setTop (mkF m 48 #[.val (.int p0), .val (.int (0 : Int32)), .val (.ref u0), .val (.ref b4)] [(.int (0 : Int32)), (.ref b4), (.int (0 : Int32))])) _
      refine X27.baloadBooleans hx (j := (0 : Int32)) (v := (.int (0 : Int32))) (by rw [e27]; exact Ar29.1) (State.isArrayOf_alike hZ.alike Ar29.2.1) Ar29.2.2 hin29 hat29 (g := (mkF m 48 #[.val (.int p0), .val (.int (0 : Int32)), .val (.ref u0), .val (.ref b4)] [(.int (0 : Int32)), (.ref b4), (.int (0 : Int32))])) rfl rfl (hb hby at_48) _ ?_
      show Steps p.tables e below (T27.setTop (mkF m 49 #[.val (.int p0), .val (.int (0 : Int32)), .val (.ref u0), .val (.ref b4)] [(.int (0 : Int32)), (.int (0 : Int32))])) _
      refine XS.icmpNo X27.here hx rfl (hb hby at_49) rfl (teq (by decide : (0 : Int32) = (0 : Int32))).2 ?_
      show Steps p.tables e below (T27.setTop (mkF m 52 #[.val (.int p0), .val (.int (0 : Int32)), .val (.ref u0), .val (.ref b4)] [])) _
      refine XS.iconst X27.here hx rfl (hb hby at_52) ?_
      show Steps p.tables e below (T27.setTop (mkF m 53 #[.val (.int p0), .val (.int (0 : Int32)), .val (.ref u0), .val (.ref b4)] [(.int (1 : Int32))])) _
      refine XS.goto X27.here hx rfl (pc0 := 53) (pc' := 57) rfl (hb hby at_53) (by decide) (by decide) ?_
      exact k
    obtain ⟨fs, hrq, hrun, hended, hW, hsame⟩ := X27.leave (v := some (.int (1 : Int32))) (fun h => by rw [Bd.returns] at h; cases h)
    refine ⟨_, _, pre30 _ ?_, hrun, hended, _, _, rfl, ?_, ⟨_, rfl⟩, hW, hsame.mono (by decide) (by decide)⟩
    · show Steps p.tables e below (T27.setTop (mkF m 57 #[.val (.int p0), .val (.int (0 : Int32)), .val (.ref u0), .val (.ref b4)] [(.int (1 : Int32))])) _
      exact retN X27 hx (t := .boolean) Bd.returns (by simp) (hb hby at_57) hrq
    · show Q0 Z p0 u0 u1 u2 u3 u4 u5 h0 n0 _ T27.heap _
      rw [e27]
      exact ⟨rfl, N27⟩
  · obtain ⟨_, _, ⟨T31, L31, k31, n31⟩, -, X31, ⟨Lc31, hQ31, l31, y31, z31⟩, st31⟩ := Jvm.LawKit.callS X1 hx (y := (⟨"com/example/semijoin/semijoin/jpql/UseKeepsUnmatchedRowsPinLaw", "useAt", "(I)Lcom/example/semijoin/semijoin/jpql/Block$Use;"⟩ : MethodName)) hown (mvT hZ (hw _ (List.mem_of_getElem? (i := 1) rfl))) (mvT hZ (hw _ (List.mem_of_getElem? (i := 2) rfl))) (mvT hZ (hw _ (List.mem_of_getElem? (i := 3) rfl))) (mvT hZ (hw _ (List.mem_of_getElem? (i := 4) rfl))) (by decide) (backOf (W := 0) (rm1 l Z a0 hw [] (1 : Int32) u0 u1 u2 u3 u4 u5 u1 h0 n0 Z0 S0 S1 S2 S3 S4 S5 (by simp [own_sel])) hZ (hw _ (List.mem_of_getElem? (i := 4) rfl)) (hw _ (List.mem_of_getElem? (i := 3) rfl)) (by decide) (by decide)) (g := (mkF m 9 #[.val (.int p0), .val (.int (1 : Int32)), .unset, .unset] [(.int (1 : Int32))])) rfl (by rw [hml]; rfl) (argsL := [(.int (1 : Int32))]) (rest := []) (lenOf pd_0 rfl) rfl (by show 2 * 0 + _ ≤ _; exact Nat.le_of_eq rfl) (hb hby at_9) (fun _ _ => ⟨rfl, e1, (by decide : 0 + 0 ≤ _), (by decide : 0 + 0 ≤ _)⟩)
    dsimp only [Pt.U, Pt.locs, Pt.cells, Pt.slots] at X31 l31 y31 z31 st31 hQ31
    subst l31 y31 z31
    obtain ⟨rfl, Nq31, hh31⟩ := hQ31
    have N31 := Fr.app N1 Nq31
    have e31 : T31.heap = h0 := hh31
    obtain ⟨T32, h32, k32, X32, e32, E32, A32, st32⟩ := newP X31 hx hZ (hw _ (List.mem_of_getElem? (i := 8) rfl)) e31 (g := (mkF m 15 #[.val (.int p0), .val (.int (1 : Int32)), .val (.ref u1), .unset] [(.int (6 : Int32))])) rfl (hb hby at_15) rfl (by decide) (cap := 6) (by decide) (by decide) (by decide) (by decide)
    obtain ⟨b32, g32⟩ : ∃ z, z = h0.size := ⟨_, rfl⟩
    rw [← g32] at A32 st32
    have g_b32 : n0 ≤ b32 := Nat.le_trans Z0 (Nat.le_of_eq g32.symm)
    have Z33 : n0 ≤ h32.size := Nat.le_trans Z0 E32.1
    have V32 : Arv Z h32 b32 k32 .boolean (6 : Int32) [(.int (0 : Int32)), (.int (0 : Int32)), (.int (0 : Int32)), (.int (0 : Int32)), (.int (0 : Int32)), (.int (0 : Int32))] (.int (0 : Int32)) := (Arv.new A32 (by decide)).pad (pad_rep [] (.int (0 : Int32)) 6)
    obtain ⟨cl34, Ar34, q34, Sz34, Nz34, Hs34, Gs34⟩ := V32
    have hin34 : ¬ ((0 : Int32) < 0 ∨ cl34.slots.size ≤ ((0 : Int32)).toNatClampNeg) := inb_of Sz34 ⟨by decide, by decide⟩
    obtain ⟨T35, h35, X35, e35, W35, st35⟩ := stZ X32 hx hZ e32 Ar34 (j := (0 : Int32)) hin34 (g := (mkF m 20 #[.val (.int p0), .val (.int (1 : Int32)), .val (.ref u1), .unset] [(.int (0 : Int32)), (.int (0 : Int32)), (.ref b32), (.ref b32)])) rfl rfl (hb hby at_20)
    have V35 : Arv Z h35 b32 k32 .boolean (6 : Int32) [(.int (nar .boolean (0 : Int32))), (.int (0 : Int32)), (.int (0 : Int32)), (.int (0 : Int32)), (.int (0 : Int32)), (.int (0 : Int32))] (.int (0 : Int32)) := Arv.set Ar34 q34 Sz34 Nz34 Hs34 Gs34 (fits_nar_bool _) W35 0 rfl (Nat.le_of_ble_eq_true rfl)
    have Z36 : n0 ≤ h35.size := Nat.le_trans Z33 (Keep.of_wr W35).1
    have N35 := Fr.snoc X35 N31 g_b32
    obtain ⟨cl37, Ar37, q37, Sz37, Nz37, Hs37, Gs37⟩ := V35
    have hin37 : ¬ ((1 : Int32) < 0 ∨ cl37.slots.size ≤ ((1 : Int32)).toNatClampNeg) := inb_of Sz37 ⟨by decide, by decide⟩
    obtain ⟨T38, h38, X38, e38, W38, st38⟩ := stZ X35 hx hZ e35 Ar37 (j := (1 : Int32)) hin37 (g := (mkF m 24 #[.val (.int p0), .val (.int (1 : Int32)), .val (.ref u1), .unset] [(.int (0 : Int32)), (.int (1 : Int32)), (.ref b32), (.ref b32)])) rfl rfl (hb hby at_24)
    have V38 : Arv Z h38 b32 k32 .boolean (6 : Int32) [(.int (nar .boolean (0 : Int32))), (.int (nar .boolean (0 : Int32))), (.int (0 : Int32)), (.int (0 : Int32)), (.int (0 : Int32)), (.int (0 : Int32))] (.int (0 : Int32)) := Arv.set Ar37 q37 Sz37 Nz37 Hs37 Gs37 (fits_nar_bool _) W38 1 rfl (Nat.le_of_ble_eq_true rfl)
    have Z39 : n0 ≤ h38.size := Nat.le_trans Z36 (Keep.of_wr W38).1
    have N38 := Fr.snoc X38 N35 g_b32
    obtain ⟨cl40, Ar40, q40, Sz40, Nz40, Hs40, Gs40⟩ := V38
    have hin40 : ¬ ((2 : Int32) < 0 ∨ cl40.slots.size ≤ ((2 : Int32)).toNatClampNeg) := inb_of Sz40 ⟨by decide, by decide⟩
    obtain ⟨T41, h41, X41, e41, W41, st41⟩ := stZ X38 hx hZ e38 Ar40 (j := (2 : Int32)) hin40 (g := (mkF m 28 #[.val (.int p0), .val (.int (1 : Int32)), .val (.ref u1), .unset] [(.int (0 : Int32)), (.int (2 : Int32)), (.ref b32), (.ref b32)])) rfl rfl (hb hby at_28)
    have V41 : Arv Z h41 b32 k32 .boolean (6 : Int32) [(.int (nar .boolean (0 : Int32))), (.int (nar .boolean (0 : Int32))), (.int (nar .boolean (0 : Int32))), (.int (0 : Int32)), (.int (0 : Int32)), (.int (0 : Int32))] (.int (0 : Int32)) := Arv.set Ar40 q40 Sz40 Nz40 Hs40 Gs40 (fits_nar_bool _) W41 2 rfl (Nat.le_of_ble_eq_true rfl)
    have Z42 : n0 ≤ h41.size := Nat.le_trans Z39 (Keep.of_wr W41).1
    have N41 := Fr.snoc X41 N38 g_b32
    obtain ⟨cl43, Ar43, q43, Sz43, Nz43, Hs43, Gs43⟩ := V41
    have hin43 : ¬ ((3 : Int32) < 0 ∨ cl43.slots.size ≤ ((3 : Int32)).toNatClampNeg) := inb_of Sz43 ⟨by decide, by decide⟩
    obtain ⟨T44, h44, X44, e44, W44, st44⟩ := stZ X41 hx hZ e41 Ar43 (j := (3 : Int32)) hin43 (g := (mkF m 32 #[.val (.int p0), .val (.int (1 : Int32)), .val (.ref u1), .unset] [(.int (1 : Int32)), (.int (3 : Int32)), (.ref b32), (.ref b32)])) rfl rfl (hb hby at_32)
    have V44 : Arv Z h44 b32 k32 .boolean (6 : Int32) [(.int (nar .boolean (0 : Int32))), (.int (nar .boolean (0 : Int32))), (.int (nar .boolean (0 : Int32))), (.int (nar .boolean (1 : Int32))), (.int (0 : Int32)), (.int (0 : Int32))] (.int (0 : Int32)) := Arv.set Ar43 q43 Sz43 Nz43 Hs43 Gs43 (fits_nar_bool _) W44 3 rfl (Nat.le_of_ble_eq_true rfl)
    have Z45 : n0 ≤ h44.size := Nat.le_trans Z42 (Keep.of_wr W44).1
    have N44 := Fr.snoc X44 N41 g_b32
    obtain ⟨cl46, Ar46, q46, Sz46, Nz46, Hs46, Gs46⟩ := V44
    have hin46 : ¬ ((4 : Int32) < 0 ∨ cl46.slots.size ≤ ((4 : Int32)).toNatClampNeg) := inb_of Sz46 ⟨by decide, by decide⟩
    obtain ⟨T47, h47, X47, e47, W47, st47⟩ := stZ X44 hx hZ e44 Ar46 (j := (4 : Int32)) hin46 (g := (mkF m 36 #[.val (.int p0), .val (.int (1 : Int32)), .val (.ref u1), .unset] [(.int (1 : Int32)), (.int (4 : Int32)), (.ref b32), (.ref b32)])) rfl rfl (hb hby at_36)
    have V47 : Arv Z h47 b32 k32 .boolean (6 : Int32) [(.int (nar .boolean (0 : Int32))), (.int (nar .boolean (0 : Int32))), (.int (nar .boolean (0 : Int32))), (.int (nar .boolean (1 : Int32))), (.int (nar .boolean (1 : Int32))), (.int (0 : Int32))] (.int (0 : Int32)) := Arv.set Ar46 q46 Sz46 Nz46 Hs46 Gs46 (fits_nar_bool _) W47 4 rfl (Nat.le_of_ble_eq_true rfl)
    have Z48 : n0 ≤ h47.size := Nat.le_trans Z45 (Keep.of_wr W47).1
    have N47 := Fr.snoc X47 N44 g_b32
    obtain ⟨cl49, Ar49, q49, Sz49, Nz49, Hs49, Gs49⟩ := V47
    have hin49 : ¬ ((5 : Int32) < 0 ∨ cl49.slots.size ≤ ((5 : Int32)).toNatClampNeg) := inb_of Sz49 ⟨by decide, by decide⟩
    obtain ⟨T50, h50, X50, e50, W50, st50⟩ := stZ X47 hx hZ e47 Ar49 (j := (5 : Int32)) hin49 (g := (mkF m 40 #[.val (.int p0), .val (.int (1 : Int32)), .val (.ref u1), .unset] [(.int (1 : Int32)), (.int (5 : Int32)), (.ref b32), (.ref b32)])) rfl rfl (hb hby at_40)
    have V50 : Arv Z h50 b32 k32 .boolean (6 : Int32) [(.int (nar .boolean (0 : Int32))), (.int (nar .boolean (0 : Int32))), (.int (nar .boolean (0 : Int32))), (.int (nar .boolean (1 : Int32))), (.int (nar .boolean (1 : Int32))), (.int (nar .boolean (1 : Int32)))] (.int (0 : Int32)) := Arv.set Ar49 q49 Sz49 Nz49 Hs49 Gs49 (fits_nar_bool _) W50 5 rfl (Nat.le_of_ble_eq_true rfl)
    have Z51 : n0 ≤ h50.size := Nat.le_trans Z48 (Keep.of_wr W50).1
    have N50 := Fr.snoc X50 N47 g_b32
    have c52 : Sta Z h50 "com/example/semijoin/semijoin/jpql/Block$Use" "NOT_EXISTS" "Lcom/example/semijoin/semijoin/jpql/Block$Use;" (.ref u3) := (((((((S3.ext E32).wr W35).wr W38).wr W41).wr W44).wr W47).wr W50)
    have c53 : Sta Z h50 "com/example/semijoin/semijoin/jpql/Block$Use" "EXCLUDED" "Lcom/example/semijoin/semijoin/jpql/Block$Use;" (.ref u4) := (((((((S4.ext E32).wr W35).wr W38).wr W41).wr W44).wr W47).wr W50)
    have c54 : Sta Z h50 "com/example/semijoin/semijoin/jpql/Block$Use" "SCALAR" "Lcom/example/semijoin/semijoin/jpql/Block$Use;" (.ref u5) := (((((((S5.ext E32).wr W35).wr W38).wr W41).wr W44).wr W47).wr W50)
    have c56 : Exa Z h50 u1 "com/example/semijoin/semijoin/jpql/Block$Use" := (((((((E1.ext E32).wr W35).wr W38).wr W41).wr W44).wr W47).wr W50)
    obtain ⟨cq55, kq55, q55a, q55b, q55c⟩ := isOf hZ e50 c56
    obtain ⟨_, _, ⟨T55, L55, k55, n55⟩, -, X55, ⟨Lc55, hQ55, l55, y55, z55⟩, st55⟩ := X50.virtualBack hx (y := (⟨"com/example/semijoin/semijoin/jpql/Block$Use", "keepsUnmatchedRows", "()Z"⟩ : MethodName)) (z := (⟨"com/example/semijoin/semijoin/jpql/Block$Use", "keepsUnmatchedRows", "()Z"⟩ : MethodName)) hown (mvT hZ (hw _ (List.mem_of_getElem? (i := 9) rfl))) (mvT hZ (hw _ (List.mem_of_getElem? (i := 10) rfl))) (notFace_of_selects (args := #[]) (mvT hZ (hw _ (List.mem_of_getElem? (i := 12) rfl)))) (mvT hZ (hw _ (List.mem_of_getElem? (i := 12) rfl))) (mvT hZ (hw _ (List.mem_of_getElem? (i := 11) rfl))) (by decide) (backOf (W := 0) (rm2 l Z a0 hw [] u1 u3 u4 u5 (0 : Int32) h50 n0 Z51 c52 c53 c54 (if_neg (fun h => h.elim d13 (fun h => h.elim d14 d15)))) hZ (hw _ (List.mem_of_getElem? (i := 13) rfl)) (hw _ (List.mem_of_getElem? (i := 6) rfl)) (by decide) (by decide)) q55a q55c (g := (mkF m 43 #[.val (.int p0), .val (.int (1 : Int32)), .val (.ref u1), .val (.ref b32)] [(.ref u1)])) rfl (by rw [hml]; rfl) (Steps.refl _) (argsL := []) (rest := []) (lenOf pd_1 rfl) rfl (by show 2 * 0 + _ ≤ _; exact Nat.le_of_eq rfl) (hb hby at_43) (fun _ _ => ⟨rfl, e50, (by decide : 1 + 0 ≤ _), (by decide : 6 + 0 ≤ _)⟩)
    dsimp only [Pt.U, Pt.locs, Pt.cells, Pt.slots] at X55 l55 y55 z55 st55 hQ55
    subst l55 y55 z55
    obtain ⟨rfl, Nq55, hh55⟩ := hQ55
    have N55 := Fr.app N50 Nq55
    have e55 : T55.heap = h50 := hh55
    obtain ⟨cl57, Ar57, -, Sz57, Nz57, Hs57, Gs57⟩ := V50
    have hin57 : ¬ ((1 : Int32) < 0 ∨ cl57.slots.size ≤ ((1 : Int32)).toNatClampNeg) := inb_of Sz57 ⟨by decide, by decide⟩
    have hat57 : cl57.slots[((1 : Int32)).toNatClampNeg]? = some (.int (0 : Int32)) := Hs57.at hin57 rfl
    have pre58 : ∀ t, Steps p.tables e below (T55.setTop (mkF m 57 #[.val (.int p0), .val (.int (1 : Int32)), .val (.ref u1), .val (.ref b32)] [(.int (1 : Int32))])) t → Steps p.tables e below (s₁.setTop (entryFrame m #[(.int p0)] maxLocals)) t := fun t k => by
      refine pre1 t ?_
      show Steps p.tables e below (T1.setTop (mkF m 7 #[.val (.int p0), .unset, .unset, .unset] [(.int (1 : Int32))])) _
      refine XS.istoreN X1.here hx rfl (hb hby at_7) rfl (l' := #[.val (.int p0), .val (.int (1 : Int32)), .unset, .unset]) rfl ?_
      show Steps p.tables e below (T1.setTop (mkF m 8 #[.val (.int p0), .val (.int (1 : Int32)), .unset, .unset] [])) _
      refine XS.iloadN X1.here hx rfl (hb hby at_8) rfl ?_
      show Steps p.tables e below (T1.setTop (mkF m 9 #[.val (.int p0), .val (.int (1 : Int32)), .unset, .unset] [(.int (1 : Int32))])) _
      refine st31 _ ?_
      show Steps p.tables e below (T31.setTop (mkF m 12 #[.val (.int p0), .val (.int (1 : Int32)), .unset, .unset] [(.ref u1)])) _
      refine XS.astoreN X31.here hx rfl (hb hby at_12) rfl rfl (l' := #[.val (.int p0), .val (.int (1 : Int32)), .val (.ref u1), .unset]) rfl ?_
      show Steps p.tables e below (T31.setTop (mkF m 13 #[.val (.int p0), .val (.int (1 : Int32)), .val (.ref u1), .unset] [])) _
      refine XS.bipush X31.here hx rfl (hb hby at_13) ?_
      show Steps p.tables e below (T31.setTop (mkF m 15 #[.val (.int p0), .val (.int (1 : Int32)), .val (.ref u1), .unset] [(.int (6 : Int32))])) _
      refine st32 _ ?_
      show Steps p.tables e below (T32.setTop (mkF m 17 #[.val (.int p0), .val (.int (1 : Int32)), .val (.ref u1), .unset] [(.ref b32)])) _
      refine XS.dup X32.here hx rfl (hb hby at_17) rfl rfl ?_
      show Steps p.tables e below (T32.setTop (mkF m 18 #[.val (.int p0), .val (.int (1 : Int32)), .val (.ref u1), .unset] [(.ref b32), (.ref b32)])) _
      refine XS.iconst X32.here hx rfl (hb hby at_18) ?_
      show Steps p.tables e below (T32.setTop (mkF m 19 #[.val (.int p0), .val (.int (1 : Int32)), .val (.ref u1), .unset] [(.int (0 : Int32)), (.ref b32), (.ref b32)])) _
      refine XS.iconst X32.here hx rfl (hb hby at_19) ?_
      show Steps p.tables e below (T32.setTop (mkF m 20 #[.val (.int p0), .val (.int (1 : Int32)), .val (.ref u1), .unset] [(.int (0 : Int32)), (.int (0 : Int32)), (.ref b32), (.ref b32)])) _
      refine st35 _ ?_
      show Steps p.tables e below (T35.setTop (mkF m 21 #[.val (.int p0), .val (.int (1 : Int32)), .val (.ref u1), .unset] [(.ref b32)])) _
      refine XS.dup X35.here hx rfl (hb hby at_21) rfl rfl ?_
      show Steps p.tables e below (T35.setTop (mkF m 22 #[.val (.int p0), .val (.int (1 : Int32)), .val (.ref u1), .unset] [(.ref b32), (.ref b32)])) _
      refine XS.iconst X35.here hx rfl (hb hby at_22) ?_
      show Steps p.tables e below (T35.setTop (mkF m 23 #[.val (.int p0), .val (.int (1 : Int32)), .val (.ref u1), .unset] [(.int (1 : Int32)), (.ref b32), (.ref b32)])) _
      refine XS.iconst X35.here hx rfl (hb hby at_23) ?_
      show Steps p.tables e below (T35.setTop (mkF m 24 #[.val (.int p0), .val (.int (1 : Int32)), .val (.ref u1), .unset] [(.int (0 : Int32)), (.int (1 : Int32)), (.ref b32), (.ref b32)])) _
      refine st38 _ ?_
      show Steps p.tables e below (T38.setTop (mkF m 25 #[.val (.int p0), .val (.int (1 : Int32)), .val (.ref u1), .unset] [(.ref b32)])) _
      refine XS.dup X38.here hx rfl (hb hby at_25) rfl rfl ?_
      show Steps p.tables e below (T38.setTop (mkF m 26 #[.val (.int p0), .val (.int (1 : Int32)), .val (.ref u1), .unset] [(.ref b32), (.ref b32)])) _
      refine XS.iconst X38.here hx rfl (hb hby at_26) ?_
      show Steps p.tables e below (T38.setTop (mkF m 27 #[.val (.int p0), .val (.int (1 : Int32)), .val (.ref u1), .unset] [(.int (2 : Int32)), (.ref b32), (.ref b32)])) _
      refine XS.iconst X38.here hx rfl (hb hby at_27) ?_
      show Steps p.tables e below (T38.setTop (mkF m 28 #[.val (.int p0), .val (.int (1 : Int32)), .val (.ref u1), .unset] [(.int (0 : Int32)), (.int (2 : Int32)), (.ref b32), (.ref b32)])) _
      refine st41 _ ?_
      show Steps p.tables e below (T41.setTop (mkF m 29 #[.val (.int p0), .val (.int (1 : Int32)), .val (.ref u1), .unset] [(.ref b32)])) _
      refine XS.dup X41.here hx rfl (hb hby at_29) rfl rfl ?_
      show Steps p.tables e below (T41.setTop (mkF m 30 #[.val (.int p0), .val (.int (1 : Int32)), .val (.ref u1), .unset] [(.ref b32), (.ref b32)])) _
      refine XS.iconst X41.here hx rfl (hb hby at_30) ?_
      show Steps p.tables e below (T41.setTop (mkF m 31 #[.val (.int p0), .val (.int (1 : Int32)), .val (.ref u1), .unset] [(.int (3 : Int32)), (.ref b32), (.ref b32)])) _
      refine XS.iconst X41.here hx rfl (hb hby at_31) ?_
      show Steps p.tables e below (T41.setTop (mkF m 32 #[.val (.int p0), .val (.int (1 : Int32)), .val (.ref u1), .unset] [(.int (1 : Int32)), (.int (3 : Int32)), (.ref b32), (.ref b32)])) _
      refine st44 _ ?_
      show Steps p.tables e below (T44.setTop (mkF m 33 #[.val (.int p0), .val (.int (1 : Int32)), .val (.ref u1), .unset] [(.ref b32)])) _
      refine XS.dup X44.here hx rfl (hb hby at_33) rfl rfl ?_
      show Steps p.tables e below (T44.setTop (mkF m 34 #[.val (.int p0), .val (.int (1 : Int32)), .val (.ref u1), .unset] [(.ref b32), (.ref b32)])) _
      refine XS.iconst X44.here hx rfl (hb hby at_34) ?_
      show Steps p.tables e below (T44.setTop (mkF m 35 #[.val (.int p0), .val (.int (1 : Int32)), .val (.ref u1), .unset] [(.int (4 : Int32)), (.ref b32), (.ref b32)])) _
      refine XS.iconst X44.here hx rfl (hb hby at_35) ?_
      show Steps p.tables e below (T44.setTop (mkF m 36 #[.val (.int p0), .val (.int (1 : Int32)), .val (.ref u1), .unset] [(.int (1 : Int32)), (.int (4 : Int32)), (.ref b32), (.ref b32)])) _
      refine st47 _ ?_
      show Steps p.tables e below (T47.setTop (mkF m 37 #[.val (.int p0), .val (.int (1 : Int32)), .val (.ref u1), .unset] [(.ref b32)])) _
      refine XS.dup X47.here hx rfl (hb hby at_37) rfl rfl ?_
      show Steps p.tables e below (T47.setTop (mkF m 38 #[.val (.int p0), .val (.int (1 : Int32)), .val (.ref u1), .unset] [(.ref b32), (.ref b32)])) _
      refine XS.iconst X47.here hx rfl (hb hby at_38) ?_
      show Steps p.tables e below (T47.setTop (mkF m 39 #[.val (.int p0), .val (.int (1 : Int32)), .val (.ref u1), .unset] [(.int (5 : Int32)), (.ref b32), (.ref b32)])) _
      refine XS.iconst X47.here hx rfl (hb hby at_39) ?_
      show Steps p.tables e below (T47.setTop (mkF m 40 #[.val (.int p0), .val (.int (1 : Int32)), .val (.ref u1), .unset] [(.int (1 : Int32)), (.int (5 : Int32)), (.ref b32), (.ref b32)])) _
      refine st50 _ ?_
      show Steps p.tables e below (T50.setTop (mkF m 41 #[.val (.int p0), .val (.int (1 : Int32)), .val (.ref u1), .unset] [(.ref b32)])) _
      refine XS.astoreN X50.here hx rfl (hb hby at_41) rfl rfl (l' := #[.val (.int p0), .val (.int (1 : Int32)), .val (.ref u1), .val (.ref b32)]) rfl ?_
      show Steps p.tables e below (T50.setTop (mkF m 42 #[.val (.int p0), .val (.int (1 : Int32)), .val (.ref u1), .val (.ref b32)] [])) _
      refine XS.aloadN X50.here hx rfl (hb hby at_42) rfl rfl ?_
      show Steps p.tables e below (T50.setTop (mkF m 43 #[.val (.int p0), .val (.int (1 : Int32)), .val (.ref u1), .val (.ref b32)] [(.ref u1)])) _
      refine st55.trans ?_
      show Steps p.tables e below (T55.setTop (mkF m 46 #[.val (.int p0), .val (.int (1 : Int32)), .val (.ref u1), .val (.ref b32)] [(.int (0 : Int32))])) _
      refine XS.aloadN X55.here hx rfl (hb hby at_46) rfl rfl ?_
      show Steps p.tables e below (T55.setTop (mkF m 47 #[.val (.int p0), .val (.int (1 : Int32)), .val (.ref u1), .val (.ref b32)] [(.ref b32), (.int (0 : Int32))])) _
      refine XS.iloadN X55.here hx rfl (hb hby at_47) rfl ?_
      show Steps p.tables e below (T55.setTop (mkF m 48 #[.val (.int p0), .val (.int (1 : Int32)), .val (.ref u1), .val (.ref b32)] [(.int (1 : Int32)), (.ref b32), (.int (0 : Int32))])) _
      refine X55.baloadBooleans hx (j := (1 : Int32)) (v := (.int (0 : Int32))) (by rw [e55]; exact Ar57.1) (State.isArrayOf_alike hZ.alike Ar57.2.1) Ar57.2.2 hin57 hat57 (g := (mkF m 48 #[.val (.int p0), .val (.int (1 : Int32)), .val (.ref u1), .val (.ref b32)] [(.int (1 : Int32)), (.ref b32), (.int (0 : Int32))])) rfl rfl (hb hby at_48) _ ?_
      show Steps p.tables e below (T55.setTop (mkF m 49 #[.val (.int p0), .val (.int (1 : Int32)), .val (.ref u1), .val (.ref b32)] [(.int (0 : Int32)), (.int (0 : Int32))])) _
      refine XS.icmpNo X55.here hx rfl (hb hby at_49) rfl (teq (by decide : (0 : Int32) = (0 : Int32))).2 ?_
      show Steps p.tables e below (T55.setTop (mkF m 52 #[.val (.int p0), .val (.int (1 : Int32)), .val (.ref u1), .val (.ref b32)] [])) _
      refine XS.iconst X55.here hx rfl (hb hby at_52) ?_
      show Steps p.tables e below (T55.setTop (mkF m 53 #[.val (.int p0), .val (.int (1 : Int32)), .val (.ref u1), .val (.ref b32)] [(.int (1 : Int32))])) _
      refine XS.goto X55.here hx rfl (pc0 := 53) (pc' := 57) rfl (hb hby at_53) (by decide) (by decide) ?_
      exact k
    obtain ⟨fs, hrq, hrun, hended, hW, hsame⟩ := X55.leave (v := some (.int (1 : Int32))) (fun h => by rw [Bd.returns] at h; cases h)
    refine ⟨_, _, pre58 _ ?_, hrun, hended, _, _, rfl, ?_, ⟨_, rfl⟩, hW, hsame.mono (by decide) (by decide)⟩
    · show Steps p.tables e below (T55.setTop (mkF m 57 #[.val (.int p0), .val (.int (1 : Int32)), .val (.ref u1), .val (.ref b32)] [(.int (1 : Int32))])) _
      exact retN X55 hx (t := .boolean) Bd.returns (by simp) (hb hby at_57) hrq
    · show Q0 Z p0 u0 u1 u2 u3 u4 u5 h0 n0 _ T55.heap _
      rw [e55]
      exact ⟨rfl, N55⟩
  · obtain ⟨_, _, ⟨T59, L59, k59, n59⟩, -, X59, ⟨Lc59, hQ59, l59, y59, z59⟩, st59⟩ := Jvm.LawKit.callS X1 hx (y := (⟨"com/example/semijoin/semijoin/jpql/UseKeepsUnmatchedRowsPinLaw", "useAt", "(I)Lcom/example/semijoin/semijoin/jpql/Block$Use;"⟩ : MethodName)) hown (mvT hZ (hw _ (List.mem_of_getElem? (i := 1) rfl))) (mvT hZ (hw _ (List.mem_of_getElem? (i := 2) rfl))) (mvT hZ (hw _ (List.mem_of_getElem? (i := 3) rfl))) (mvT hZ (hw _ (List.mem_of_getElem? (i := 4) rfl))) (by decide) (backOf (W := 0) (rm1 l Z a0 hw [] (2 : Int32) u0 u1 u2 u3 u4 u5 u2 h0 n0 Z0 S0 S1 S2 S3 S4 S5 (by simp [own_sel])) hZ (hw _ (List.mem_of_getElem? (i := 4) rfl)) (hw _ (List.mem_of_getElem? (i := 3) rfl)) (by decide) (by decide)) (g := (mkF m 9 #[.val (.int p0), .val (.int (2 : Int32)), .unset, .unset] [(.int (2 : Int32))])) rfl (by rw [hml]; rfl) (argsL := [(.int (2 : Int32))]) (rest := []) (lenOf pd_0 rfl) rfl (by show 2 * 0 + _ ≤ _; exact Nat.le_of_eq rfl) (hb hby at_9) (fun _ _ => ⟨rfl, e1, (by decide : 0 + 0 ≤ _), (by decide : 0 + 0 ≤ _)⟩)
    dsimp only [Pt.U, Pt.locs, Pt.cells, Pt.slots] at X59 l59 y59 z59 st59 hQ59
    subst l59 y59 z59
    obtain ⟨rfl, Nq59, hh59⟩ := hQ59
    have N59 := Fr.app N1 Nq59
    have e59 : T59.heap = h0 := hh59
    obtain ⟨T60, h60, k60, X60, e60, E60, A60, st60⟩ := newP X59 hx hZ (hw _ (List.mem_of_getElem? (i := 8) rfl)) e59 (g := (mkF m 15 #[.val (.int p0), .val (.int (2 : Int32)), .val (.ref u2), .unset] [(.int (6 : Int32))])) rfl (hb hby at_15) rfl (by decide) (cap := 6) (by decide) (by decide) (by decide) (by decide)
    obtain ⟨b60, g60⟩ : ∃ z, z = h0.size := ⟨_, rfl⟩
    rw [← g60] at A60 st60
    have g_b60 : n0 ≤ b60 := Nat.le_trans Z0 (Nat.le_of_eq g60.symm)
    have Z61 : n0 ≤ h60.size := Nat.le_trans Z0 E60.1
    have V60 : Arv Z h60 b60 k60 .boolean (6 : Int32) [(.int (0 : Int32)), (.int (0 : Int32)), (.int (0 : Int32)), (.int (0 : Int32)), (.int (0 : Int32)), (.int (0 : Int32))] (.int (0 : Int32)) := (Arv.new A60 (by decide)).pad (pad_rep [] (.int (0 : Int32)) 6)
    obtain ⟨cl62, Ar62, q62, Sz62, Nz62, Hs62, Gs62⟩ := V60
    have hin62 : ¬ ((0 : Int32) < 0 ∨ cl62.slots.size ≤ ((0 : Int32)).toNatClampNeg) := inb_of Sz62 ⟨by decide, by decide⟩
    obtain ⟨T63, h63, X63, e63, W63, st63⟩ := stZ X60 hx hZ e60 Ar62 (j := (0 : Int32)) hin62 (g := (mkF m 20 #[.val (.int p0), .val (.int (2 : Int32)), .val (.ref u2), .unset] [(.int (0 : Int32)), (.int (0 : Int32)), (.ref b60), (.ref b60)])) rfl rfl (hb hby at_20)
    have V63 : Arv Z h63 b60 k60 .boolean (6 : Int32) [(.int (nar .boolean (0 : Int32))), (.int (0 : Int32)), (.int (0 : Int32)), (.int (0 : Int32)), (.int (0 : Int32)), (.int (0 : Int32))] (.int (0 : Int32)) := Arv.set Ar62 q62 Sz62 Nz62 Hs62 Gs62 (fits_nar_bool _) W63 0 rfl (Nat.le_of_ble_eq_true rfl)
    have Z64 : n0 ≤ h63.size := Nat.le_trans Z61 (Keep.of_wr W63).1
    have N63 := Fr.snoc X63 N59 g_b60
    obtain ⟨cl65, Ar65, q65, Sz65, Nz65, Hs65, Gs65⟩ := V63
    have hin65 : ¬ ((1 : Int32) < 0 ∨ cl65.slots.size ≤ ((1 : Int32)).toNatClampNeg) := inb_of Sz65 ⟨by decide, by decide⟩
    obtain ⟨T66, h66, X66, e66, W66, st66⟩ := stZ X63 hx hZ e63 Ar65 (j := (1 : Int32)) hin65 (g := (mkF m 24 #[.val (.int p0), .val (.int (2 : Int32)), .val (.ref u2), .unset] [(.int (0 : Int32)), (.int (1 : Int32)), (.ref b60), (.ref b60)])) rfl rfl (hb hby at_24)
    have V66 : Arv Z h66 b60 k60 .boolean (6 : Int32) [(.int (nar .boolean (0 : Int32))), (.int (nar .boolean (0 : Int32))), (.int (0 : Int32)), (.int (0 : Int32)), (.int (0 : Int32)), (.int (0 : Int32))] (.int (0 : Int32)) := Arv.set Ar65 q65 Sz65 Nz65 Hs65 Gs65 (fits_nar_bool _) W66 1 rfl (Nat.le_of_ble_eq_true rfl)
    have Z67 : n0 ≤ h66.size := Nat.le_trans Z64 (Keep.of_wr W66).1
    have N66 := Fr.snoc X66 N63 g_b60
    obtain ⟨cl68, Ar68, q68, Sz68, Nz68, Hs68, Gs68⟩ := V66
    have hin68 : ¬ ((2 : Int32) < 0 ∨ cl68.slots.size ≤ ((2 : Int32)).toNatClampNeg) := inb_of Sz68 ⟨by decide, by decide⟩
    obtain ⟨T69, h69, X69, e69, W69, st69⟩ := stZ X66 hx hZ e66 Ar68 (j := (2 : Int32)) hin68 (g := (mkF m 28 #[.val (.int p0), .val (.int (2 : Int32)), .val (.ref u2), .unset] [(.int (0 : Int32)), (.int (2 : Int32)), (.ref b60), (.ref b60)])) rfl rfl (hb hby at_28)
    have V69 : Arv Z h69 b60 k60 .boolean (6 : Int32) [(.int (nar .boolean (0 : Int32))), (.int (nar .boolean (0 : Int32))), (.int (nar .boolean (0 : Int32))), (.int (0 : Int32)), (.int (0 : Int32)), (.int (0 : Int32))] (.int (0 : Int32)) := Arv.set Ar68 q68 Sz68 Nz68 Hs68 Gs68 (fits_nar_bool _) W69 2 rfl (Nat.le_of_ble_eq_true rfl)
    have Z70 : n0 ≤ h69.size := Nat.le_trans Z67 (Keep.of_wr W69).1
    have N69 := Fr.snoc X69 N66 g_b60
    obtain ⟨cl71, Ar71, q71, Sz71, Nz71, Hs71, Gs71⟩ := V69
    have hin71 : ¬ ((3 : Int32) < 0 ∨ cl71.slots.size ≤ ((3 : Int32)).toNatClampNeg) := inb_of Sz71 ⟨by decide, by decide⟩
    obtain ⟨T72, h72, X72, e72, W72, st72⟩ := stZ X69 hx hZ e69 Ar71 (j := (3 : Int32)) hin71 (g := (mkF m 32 #[.val (.int p0), .val (.int (2 : Int32)), .val (.ref u2), .unset] [(.int (1 : Int32)), (.int (3 : Int32)), (.ref b60), (.ref b60)])) rfl rfl (hb hby at_32)
    have V72 : Arv Z h72 b60 k60 .boolean (6 : Int32) [(.int (nar .boolean (0 : Int32))), (.int (nar .boolean (0 : Int32))), (.int (nar .boolean (0 : Int32))), (.int (nar .boolean (1 : Int32))), (.int (0 : Int32)), (.int (0 : Int32))] (.int (0 : Int32)) := Arv.set Ar71 q71 Sz71 Nz71 Hs71 Gs71 (fits_nar_bool _) W72 3 rfl (Nat.le_of_ble_eq_true rfl)
    have Z73 : n0 ≤ h72.size := Nat.le_trans Z70 (Keep.of_wr W72).1
    have N72 := Fr.snoc X72 N69 g_b60
    obtain ⟨cl74, Ar74, q74, Sz74, Nz74, Hs74, Gs74⟩ := V72
    have hin74 : ¬ ((4 : Int32) < 0 ∨ cl74.slots.size ≤ ((4 : Int32)).toNatClampNeg) := inb_of Sz74 ⟨by decide, by decide⟩
    obtain ⟨T75, h75, X75, e75, W75, st75⟩ := stZ X72 hx hZ e72 Ar74 (j := (4 : Int32)) hin74 (g := (mkF m 36 #[.val (.int p0), .val (.int (2 : Int32)), .val (.ref u2), .unset] [(.int (1 : Int32)), (.int (4 : Int32)), (.ref b60), (.ref b60)])) rfl rfl (hb hby at_36)
    have V75 : Arv Z h75 b60 k60 .boolean (6 : Int32) [(.int (nar .boolean (0 : Int32))), (.int (nar .boolean (0 : Int32))), (.int (nar .boolean (0 : Int32))), (.int (nar .boolean (1 : Int32))), (.int (nar .boolean (1 : Int32))), (.int (0 : Int32))] (.int (0 : Int32)) := Arv.set Ar74 q74 Sz74 Nz74 Hs74 Gs74 (fits_nar_bool _) W75 4 rfl (Nat.le_of_ble_eq_true rfl)
    have Z76 : n0 ≤ h75.size := Nat.le_trans Z73 (Keep.of_wr W75).1
    have N75 := Fr.snoc X75 N72 g_b60
    obtain ⟨cl77, Ar77, q77, Sz77, Nz77, Hs77, Gs77⟩ := V75
    have hin77 : ¬ ((5 : Int32) < 0 ∨ cl77.slots.size ≤ ((5 : Int32)).toNatClampNeg) := inb_of Sz77 ⟨by decide, by decide⟩
    obtain ⟨T78, h78, X78, e78, W78, st78⟩ := stZ X75 hx hZ e75 Ar77 (j := (5 : Int32)) hin77 (g := (mkF m 40 #[.val (.int p0), .val (.int (2 : Int32)), .val (.ref u2), .unset] [(.int (1 : Int32)), (.int (5 : Int32)), (.ref b60), (.ref b60)])) rfl rfl (hb hby at_40)
    have V78 : Arv Z h78 b60 k60 .boolean (6 : Int32) [(.int (nar .boolean (0 : Int32))), (.int (nar .boolean (0 : Int32))), (.int (nar .boolean (0 : Int32))), (.int (nar .boolean (1 : Int32))), (.int (nar .boolean (1 : Int32))), (.int (nar .boolean (1 : Int32)))] (.int (0 : Int32)) := Arv.set Ar77 q77 Sz77 Nz77 Hs77 Gs77 (fits_nar_bool _) W78 5 rfl (Nat.le_of_ble_eq_true rfl)
    have Z79 : n0 ≤ h78.size := Nat.le_trans Z76 (Keep.of_wr W78).1
    have N78 := Fr.snoc X78 N75 g_b60
    have c80 : Sta Z h78 "com/example/semijoin/semijoin/jpql/Block$Use" "NOT_EXISTS" "Lcom/example/semijoin/semijoin/jpql/Block$Use;" (.ref u3) := (((((((S3.ext E60).wr W63).wr W66).wr W69).wr W72).wr W75).wr W78)
    have c81 : Sta Z h78 "com/example/semijoin/semijoin/jpql/Block$Use" "EXCLUDED" "Lcom/example/semijoin/semijoin/jpql/Block$Use;" (.ref u4) := (((((((S4.ext E60).wr W63).wr W66).wr W69).wr W72).wr W75).wr W78)
    have c82 : Sta Z h78 "com/example/semijoin/semijoin/jpql/Block$Use" "SCALAR" "Lcom/example/semijoin/semijoin/jpql/Block$Use;" (.ref u5) := (((((((S5.ext E60).wr W63).wr W66).wr W69).wr W72).wr W75).wr W78)
    have c84 : Exa Z h78 u2 "com/example/semijoin/semijoin/jpql/Block$Use" := (((((((E2.ext E60).wr W63).wr W66).wr W69).wr W72).wr W75).wr W78)
    obtain ⟨cq83, kq83, q83a, q83b, q83c⟩ := isOf hZ e78 c84
    obtain ⟨_, _, ⟨T83, L83, k83, n83⟩, -, X83, ⟨Lc83, hQ83, l83, y83, z83⟩, st83⟩ := X78.virtualBack hx (y := (⟨"com/example/semijoin/semijoin/jpql/Block$Use", "keepsUnmatchedRows", "()Z"⟩ : MethodName)) (z := (⟨"com/example/semijoin/semijoin/jpql/Block$Use", "keepsUnmatchedRows", "()Z"⟩ : MethodName)) hown (mvT hZ (hw _ (List.mem_of_getElem? (i := 9) rfl))) (mvT hZ (hw _ (List.mem_of_getElem? (i := 10) rfl))) (notFace_of_selects (args := #[]) (mvT hZ (hw _ (List.mem_of_getElem? (i := 12) rfl)))) (mvT hZ (hw _ (List.mem_of_getElem? (i := 12) rfl))) (mvT hZ (hw _ (List.mem_of_getElem? (i := 11) rfl))) (by decide) (backOf (W := 0) (rm2 l Z a0 hw [] u2 u3 u4 u5 (0 : Int32) h78 n0 Z79 c80 c81 c82 (if_neg (fun h => h.elim d23 (fun h => h.elim d24 d25)))) hZ (hw _ (List.mem_of_getElem? (i := 13) rfl)) (hw _ (List.mem_of_getElem? (i := 6) rfl)) (by decide) (by decide)) q83a q83c (g := (mkF m 43 #[.val (.int p0), .val (.int (2 : Int32)), .val (.ref u2), .val (.ref b60)] [(.ref u2)])) rfl (by rw [hml]; rfl) (Steps.refl _) (argsL := []) (rest := []) (lenOf pd_1 rfl) rfl (by show 2 * 0 + _ ≤ _; exact Nat.le_of_eq rfl) (hb hby at_43) (fun _ _ => ⟨rfl, e78, (by decide : 1 + 0 ≤ _), (by decide : 6 + 0 ≤ _)⟩)
    dsimp only [Pt.U, Pt.locs, Pt.cells, Pt.slots] at X83 l83 y83 z83 st83 hQ83
    subst l83 y83 z83
    obtain ⟨rfl, Nq83, hh83⟩ := hQ83
    have N83 := Fr.app N78 Nq83
    have e83 : T83.heap = h78 := hh83
    obtain ⟨cl85, Ar85, -, Sz85, Nz85, Hs85, Gs85⟩ := V78
    have hin85 : ¬ ((2 : Int32) < 0 ∨ cl85.slots.size ≤ ((2 : Int32)).toNatClampNeg) := inb_of Sz85 ⟨by decide, by decide⟩
    have hat85 : cl85.slots[((2 : Int32)).toNatClampNeg]? = some (.int (0 : Int32)) := Hs85.at hin85 rfl
    have pre86 : ∀ t, Steps p.tables e below (T83.setTop (mkF m 57 #[.val (.int p0), .val (.int (2 : Int32)), .val (.ref u2), .val (.ref b60)] [(.int (1 : Int32))])) t → Steps p.tables e below (s₁.setTop (entryFrame m #[(.int p0)] maxLocals)) t := fun t k => by
      refine pre1 t ?_
      show Steps p.tables e below (T1.setTop (mkF m 7 #[.val (.int p0), .unset, .unset, .unset] [(.int (2 : Int32))])) _
      refine XS.istoreN X1.here hx rfl (hb hby at_7) rfl (l' := #[.val (.int p0), .val (.int (2 : Int32)), .unset, .unset]) rfl ?_
      show Steps p.tables e below (T1.setTop (mkF m 8 #[.val (.int p0), .val (.int (2 : Int32)), .unset, .unset] [])) _
      refine XS.iloadN X1.here hx rfl (hb hby at_8) rfl ?_
      show Steps p.tables e below (T1.setTop (mkF m 9 #[.val (.int p0), .val (.int (2 : Int32)), .unset, .unset] [(.int (2 : Int32))])) _
      refine st59 _ ?_
      show Steps p.tables e below (T59.setTop (mkF m 12 #[.val (.int p0), .val (.int (2 : Int32)), .unset, .unset] [(.ref u2)])) _
      refine XS.astoreN X59.here hx rfl (hb hby at_12) rfl rfl (l' := #[.val (.int p0), .val (.int (2 : Int32)), .val (.ref u2), .unset]) rfl ?_
      show Steps p.tables e below (T59.setTop (mkF m 13 #[.val (.int p0), .val (.int (2 : Int32)), .val (.ref u2), .unset] [])) _
      refine XS.bipush X59.here hx rfl (hb hby at_13) ?_
      show Steps p.tables e below (T59.setTop (mkF m 15 #[.val (.int p0), .val (.int (2 : Int32)), .val (.ref u2), .unset] [(.int (6 : Int32))])) _
      refine st60 _ ?_
      show Steps p.tables e below (T60.setTop (mkF m 17 #[.val (.int p0), .val (.int (2 : Int32)), .val (.ref u2), .unset] [(.ref b60)])) _
      refine XS.dup X60.here hx rfl (hb hby at_17) rfl rfl ?_
      show Steps p.tables e below (T60.setTop (mkF m 18 #[.val (.int p0), .val (.int (2 : Int32)), .val (.ref u2), .unset] [(.ref b60), (.ref b60)])) _
      refine XS.iconst X60.here hx rfl (hb hby at_18) ?_
      show Steps p.tables e below (T60.setTop (mkF m 19 #[.val (.int p0), .val (.int (2 : Int32)), .val (.ref u2), .unset] [(.int (0 : Int32)), (.ref b60), (.ref b60)])) _
      refine XS.iconst X60.here hx rfl (hb hby at_19) ?_
      show Steps p.tables e below (T60.setTop (mkF m 20 #[.val (.int p0), .val (.int (2 : Int32)), .val (.ref u2), .unset] [(.int (0 : Int32)), (.int (0 : Int32)), (.ref b60), (.ref b60)])) _
      refine st63 _ ?_
      show Steps p.tables e below (T63.setTop (mkF m 21 #[.val (.int p0), .val (.int (2 : Int32)), .val (.ref u2), .unset] [(.ref b60)])) _
      refine XS.dup X63.here hx rfl (hb hby at_21) rfl rfl ?_
      show Steps p.tables e below (T63.setTop (mkF m 22 #[.val (.int p0), .val (.int (2 : Int32)), .val (.ref u2), .unset] [(.ref b60), (.ref b60)])) _
      refine XS.iconst X63.here hx rfl (hb hby at_22) ?_
      show Steps p.tables e below (T63.setTop (mkF m 23 #[.val (.int p0), .val (.int (2 : Int32)), .val (.ref u2), .unset] [(.int (1 : Int32)), (.ref b60), (.ref b60)])) _
      refine XS.iconst X63.here hx rfl (hb hby at_23) ?_
      show Steps p.tables e below (T63.setTop (mkF m 24 #[.val (.int p0), .val (.int (2 : Int32)), .val (.ref u2), .unset] [(.int (0 : Int32)), (.int (1 : Int32)), (.ref b60), (.ref b60)])) _
      refine st66 _ ?_
      show Steps p.tables e below (T66.setTop (mkF m 25 #[.val (.int p0), .val (.int (2 : Int32)), .val (.ref u2), .unset] [(.ref b60)])) _
      refine XS.dup X66.here hx rfl (hb hby at_25) rfl rfl ?_
      show Steps p.tables e below (T66.setTop (mkF m 26 #[.val (.int p0), .val (.int (2 : Int32)), .val (.ref u2), .unset] [(.ref b60), (.ref b60)])) _
      refine XS.iconst X66.here hx rfl (hb hby at_26) ?_
      show Steps p.tables e below (T66.setTop (mkF m 27 #[.val (.int p0), .val (.int (2 : Int32)), .val (.ref u2), .unset] [(.int (2 : Int32)), (.ref b60), (.ref b60)])) _
      refine XS.iconst X66.here hx rfl (hb hby at_27) ?_
      show Steps p.tables e below (T66.setTop (mkF m 28 #[.val (.int p0), .val (.int (2 : Int32)), .val (.ref u2), .unset] [(.int (0 : Int32)), (.int (2 : Int32)), (.ref b60), (.ref b60)])) _
      refine st69 _ ?_
      show Steps p.tables e below (T69.setTop (mkF m 29 #[.val (.int p0), .val (.int (2 : Int32)), .val (.ref u2), .unset] [(.ref b60)])) _
      refine XS.dup X69.here hx rfl (hb hby at_29) rfl rfl ?_
      show Steps p.tables e below (T69.setTop (mkF m 30 #[.val (.int p0), .val (.int (2 : Int32)), .val (.ref u2), .unset] [(.ref b60), (.ref b60)])) _
      refine XS.iconst X69.here hx rfl (hb hby at_30) ?_
      show Steps p.tables e below (T69.setTop (mkF m 31 #[.val (.int p0), .val (.int (2 : Int32)), .val (.ref u2), .unset] [(.int (3 : Int32)), (.ref b60), (.ref b60)])) _
      refine XS.iconst X69.here hx rfl (hb hby at_31) ?_
      show Steps p.tables e below (T69.setTop (mkF m 32 #[.val (.int p0), .val (.int (2 : Int32)), .val (.ref u2), .unset] [(.int (1 : Int32)), (.int (3 : Int32)), (.ref b60), (.ref b60)])) _
      refine st72 _ ?_
      show Steps p.tables e below (T72.setTop (mkF m 33 #[.val (.int p0), .val (.int (2 : Int32)), .val (.ref u2), .unset] [(.ref b60)])) _
      refine XS.dup X72.here hx rfl (hb hby at_33) rfl rfl ?_
      show Steps p.tables e below (T72.setTop (mkF m 34 #[.val (.int p0), .val (.int (2 : Int32)), .val (.ref u2), .unset] [(.ref b60), (.ref b60)])) _
      refine XS.iconst X72.here hx rfl (hb hby at_34) ?_
      show Steps p.tables e below (T72.setTop (mkF m 35 #[.val (.int p0), .val (.int (2 : Int32)), .val (.ref u2), .unset] [(.int (4 : Int32)), (.ref b60), (.ref b60)])) _
      refine XS.iconst X72.here hx rfl (hb hby at_35) ?_
      show Steps p.tables e below (T72.setTop (mkF m 36 #[.val (.int p0), .val (.int (2 : Int32)), .val (.ref u2), .unset] [(.int (1 : Int32)), (.int (4 : Int32)), (.ref b60), (.ref b60)])) _
      refine st75 _ ?_
      show Steps p.tables e below (T75.setTop (mkF m 37 #[.val (.int p0), .val (.int (2 : Int32)), .val (.ref u2), .unset] [(.ref b60)])) _
      refine XS.dup X75.here hx rfl (hb hby at_37) rfl rfl ?_
      show Steps p.tables e below (T75.setTop (mkF m 38 #[.val (.int p0), .val (.int (2 : Int32)), .val (.ref u2), .unset] [(.ref b60), (.ref b60)])) _
      refine XS.iconst X75.here hx rfl (hb hby at_38) ?_
      show Steps p.tables e below (T75.setTop (mkF m 39 #[.val (.int p0), .val (.int (2 : Int32)), .val (.ref u2), .unset] [(.int (5 : Int32)), (.ref b60), (.ref b60)])) _
      refine XS.iconst X75.here hx rfl (hb hby at_39) ?_
      show Steps p.tables e below (T75.setTop (mkF m 40 #[.val (.int p0), .val (.int (2 : Int32)), .val (.ref u2), .unset] [(.int (1 : Int32)), (.int (5 : Int32)), (.ref b60), (.ref b60)])) _
      refine st78 _ ?_
      show Steps p.tables e below (T78.setTop (mkF m 41 #[.val (.int p0), .val (.int (2 : Int32)), .val (.ref u2), .unset] [(.ref b60)])) _
      refine XS.astoreN X78.here hx rfl (hb hby at_41) rfl rfl (l' := #[.val (.int p0), .val (.int (2 : Int32)), .val (.ref u2), .val (.ref b60)]) rfl ?_
      show Steps p.tables e below (T78.setTop (mkF m 42 #[.val (.int p0), .val (.int (2 : Int32)), .val (.ref u2), .val (.ref b60)] [])) _
      refine XS.aloadN X78.here hx rfl (hb hby at_42) rfl rfl ?_
      show Steps p.tables e below (T78.setTop (mkF m 43 #[.val (.int p0), .val (.int (2 : Int32)), .val (.ref u2), .val (.ref b60)] [(.ref u2)])) _
      refine st83.trans ?_
      show Steps p.tables e below (T83.setTop (mkF m 46 #[.val (.int p0), .val (.int (2 : Int32)), .val (.ref u2), .val (.ref b60)] [(.int (0 : Int32))])) _
      refine XS.aloadN X83.here hx rfl (hb hby at_46) rfl rfl ?_
      show Steps p.tables e below (T83.setTop (mkF m 47 #[.val (.int p0), .val (.int (2 : Int32)), .val (.ref u2), .val (.ref b60)] [(.ref b60), (.int (0 : Int32))])) _
      refine XS.iloadN X83.here hx rfl (hb hby at_47) rfl ?_
      show Steps p.tables e below (T83.setTop (mkF m 48 #[.val (.int p0), .val (.int (2 : Int32)), .val (.ref u2), .val (.ref b60)] [(.int (2 : Int32)), (.ref b60), (.int (0 : Int32))])) _
      refine X83.baloadBooleans hx (j := (2 : Int32)) (v := (.int (0 : Int32))) (by rw [e83]; exact Ar85.1) (State.isArrayOf_alike hZ.alike Ar85.2.1) Ar85.2.2 hin85 hat85 (g := (mkF m 48 #[.val (.int p0), .val (.int (2 : Int32)), .val (.ref u2), .val (.ref b60)] [(.int (2 : Int32)), (.ref b60), (.int (0 : Int32))])) rfl rfl (hb hby at_48) _ ?_
      show Steps p.tables e below (T83.setTop (mkF m 49 #[.val (.int p0), .val (.int (2 : Int32)), .val (.ref u2), .val (.ref b60)] [(.int (0 : Int32)), (.int (0 : Int32))])) _
      refine XS.icmpNo X83.here hx rfl (hb hby at_49) rfl (teq (by decide : (0 : Int32) = (0 : Int32))).2 ?_
      show Steps p.tables e below (T83.setTop (mkF m 52 #[.val (.int p0), .val (.int (2 : Int32)), .val (.ref u2), .val (.ref b60)] [])) _
      refine XS.iconst X83.here hx rfl (hb hby at_52) ?_
      show Steps p.tables e below (T83.setTop (mkF m 53 #[.val (.int p0), .val (.int (2 : Int32)), .val (.ref u2), .val (.ref b60)] [(.int (1 : Int32))])) _
      refine XS.goto X83.here hx rfl (pc0 := 53) (pc' := 57) rfl (hb hby at_53) (by decide) (by decide) ?_
      exact k
    obtain ⟨fs, hrq, hrun, hended, hW, hsame⟩ := X83.leave (v := some (.int (1 : Int32))) (fun h => by rw [Bd.returns] at h; cases h)
    refine ⟨_, _, pre86 _ ?_, hrun, hended, _, _, rfl, ?_, ⟨_, rfl⟩, hW, hsame.mono (by decide) (by decide)⟩
    · show Steps p.tables e below (T83.setTop (mkF m 57 #[.val (.int p0), .val (.int (2 : Int32)), .val (.ref u2), .val (.ref b60)] [(.int (1 : Int32))])) _
      exact retN X83 hx (t := .boolean) Bd.returns (by simp) (hb hby at_57) hrq
    · show Q0 Z p0 u0 u1 u2 u3 u4 u5 h0 n0 _ T83.heap _
      rw [e83]
      exact ⟨rfl, N83⟩
  · obtain ⟨_, _, ⟨T87, L87, k87, n87⟩, -, X87, ⟨Lc87, hQ87, l87, y87, z87⟩, st87⟩ := Jvm.LawKit.callS X1 hx (y := (⟨"com/example/semijoin/semijoin/jpql/UseKeepsUnmatchedRowsPinLaw", "useAt", "(I)Lcom/example/semijoin/semijoin/jpql/Block$Use;"⟩ : MethodName)) hown (mvT hZ (hw _ (List.mem_of_getElem? (i := 1) rfl))) (mvT hZ (hw _ (List.mem_of_getElem? (i := 2) rfl))) (mvT hZ (hw _ (List.mem_of_getElem? (i := 3) rfl))) (mvT hZ (hw _ (List.mem_of_getElem? (i := 4) rfl))) (by decide) (backOf (W := 0) (rm1 l Z a0 hw [] (3 : Int32) u0 u1 u2 u3 u4 u5 u3 h0 n0 Z0 S0 S1 S2 S3 S4 S5 (by simp [own_sel])) hZ (hw _ (List.mem_of_getElem? (i := 4) rfl)) (hw _ (List.mem_of_getElem? (i := 3) rfl)) (by decide) (by decide)) (g := (mkF m 9 #[.val (.int p0), .val (.int (3 : Int32)), .unset, .unset] [(.int (3 : Int32))])) rfl (by rw [hml]; rfl) (argsL := [(.int (3 : Int32))]) (rest := []) (lenOf pd_0 rfl) rfl (by show 2 * 0 + _ ≤ _; exact Nat.le_of_eq rfl) (hb hby at_9) (fun _ _ => ⟨rfl, e1, (by decide : 0 + 0 ≤ _), (by decide : 0 + 0 ≤ _)⟩)
    dsimp only [Pt.U, Pt.locs, Pt.cells, Pt.slots] at X87 l87 y87 z87 st87 hQ87
    subst l87 y87 z87
    obtain ⟨rfl, Nq87, hh87⟩ := hQ87
    have N87 := Fr.app N1 Nq87
    have e87 : T87.heap = h0 := hh87
    obtain ⟨T88, h88, k88, X88, e88, E88, A88, st88⟩ := newP X87 hx hZ (hw _ (List.mem_of_getElem? (i := 8) rfl)) e87 (g := (mkF m 15 #[.val (.int p0), .val (.int (3 : Int32)), .val (.ref u3), .unset] [(.int (6 : Int32))])) rfl (hb hby at_15) rfl (by decide) (cap := 6) (by decide) (by decide) (by decide) (by decide)
    obtain ⟨b88, g88⟩ : ∃ z, z = h0.size := ⟨_, rfl⟩
    rw [← g88] at A88 st88
    have g_b88 : n0 ≤ b88 := Nat.le_trans Z0 (Nat.le_of_eq g88.symm)
    have Z89 : n0 ≤ h88.size := Nat.le_trans Z0 E88.1
    have V88 : Arv Z h88 b88 k88 .boolean (6 : Int32) [(.int (0 : Int32)), (.int (0 : Int32)), (.int (0 : Int32)), (.int (0 : Int32)), (.int (0 : Int32)), (.int (0 : Int32))] (.int (0 : Int32)) := (Arv.new A88 (by decide)).pad (pad_rep [] (.int (0 : Int32)) 6)
    obtain ⟨cl90, Ar90, q90, Sz90, Nz90, Hs90, Gs90⟩ := V88
    have hin90 : ¬ ((0 : Int32) < 0 ∨ cl90.slots.size ≤ ((0 : Int32)).toNatClampNeg) := inb_of Sz90 ⟨by decide, by decide⟩
    obtain ⟨T91, h91, X91, e91, W91, st91⟩ := stZ X88 hx hZ e88 Ar90 (j := (0 : Int32)) hin90 (g := (mkF m 20 #[.val (.int p0), .val (.int (3 : Int32)), .val (.ref u3), .unset] [(.int (0 : Int32)), (.int (0 : Int32)), (.ref b88), (.ref b88)])) rfl rfl (hb hby at_20)
    have V91 : Arv Z h91 b88 k88 .boolean (6 : Int32) [(.int (nar .boolean (0 : Int32))), (.int (0 : Int32)), (.int (0 : Int32)), (.int (0 : Int32)), (.int (0 : Int32)), (.int (0 : Int32))] (.int (0 : Int32)) := Arv.set Ar90 q90 Sz90 Nz90 Hs90 Gs90 (fits_nar_bool _) W91 0 rfl (Nat.le_of_ble_eq_true rfl)
    have Z92 : n0 ≤ h91.size := Nat.le_trans Z89 (Keep.of_wr W91).1
    have N91 := Fr.snoc X91 N87 g_b88
    obtain ⟨cl93, Ar93, q93, Sz93, Nz93, Hs93, Gs93⟩ := V91
    have hin93 : ¬ ((1 : Int32) < 0 ∨ cl93.slots.size ≤ ((1 : Int32)).toNatClampNeg) := inb_of Sz93 ⟨by decide, by decide⟩
    obtain ⟨T94, h94, X94, e94, W94, st94⟩ := stZ X91 hx hZ e91 Ar93 (j := (1 : Int32)) hin93 (g := (mkF m 24 #[.val (.int p0), .val (.int (3 : Int32)), .val (.ref u3), .unset] [(.int (0 : Int32)), (.int (1 : Int32)), (.ref b88), (.ref b88)])) rfl rfl (hb hby at_24)
    have V94 : Arv Z h94 b88 k88 .boolean (6 : Int32) [(.int (nar .boolean (0 : Int32))), (.int (nar .boolean (0 : Int32))), (.int (0 : Int32)), (.int (0 : Int32)), (.int (0 : Int32)), (.int (0 : Int32))] (.int (0 : Int32)) := Arv.set Ar93 q93 Sz93 Nz93 Hs93 Gs93 (fits_nar_bool _) W94 1 rfl (Nat.le_of_ble_eq_true rfl)
    have Z95 : n0 ≤ h94.size := Nat.le_trans Z92 (Keep.of_wr W94).1
    have N94 := Fr.snoc X94 N91 g_b88
    obtain ⟨cl96, Ar96, q96, Sz96, Nz96, Hs96, Gs96⟩ := V94
    have hin96 : ¬ ((2 : Int32) < 0 ∨ cl96.slots.size ≤ ((2 : Int32)).toNatClampNeg) := inb_of Sz96 ⟨by decide, by decide⟩
    obtain ⟨T97, h97, X97, e97, W97, st97⟩ := stZ X94 hx hZ e94 Ar96 (j := (2 : Int32)) hin96 (g := (mkF m 28 #[.val (.int p0), .val (.int (3 : Int32)), .val (.ref u3), .unset] [(.int (0 : Int32)), (.int (2 : Int32)), (.ref b88), (.ref b88)])) rfl rfl (hb hby at_28)
    have V97 : Arv Z h97 b88 k88 .boolean (6 : Int32) [(.int (nar .boolean (0 : Int32))), (.int (nar .boolean (0 : Int32))), (.int (nar .boolean (0 : Int32))), (.int (0 : Int32)), (.int (0 : Int32)), (.int (0 : Int32))] (.int (0 : Int32)) := Arv.set Ar96 q96 Sz96 Nz96 Hs96 Gs96 (fits_nar_bool _) W97 2 rfl (Nat.le_of_ble_eq_true rfl)
    have Z98 : n0 ≤ h97.size := Nat.le_trans Z95 (Keep.of_wr W97).1
    have N97 := Fr.snoc X97 N94 g_b88
    obtain ⟨cl99, Ar99, q99, Sz99, Nz99, Hs99, Gs99⟩ := V97
    have hin99 : ¬ ((3 : Int32) < 0 ∨ cl99.slots.size ≤ ((3 : Int32)).toNatClampNeg) := inb_of Sz99 ⟨by decide, by decide⟩
    obtain ⟨T100, h100, X100, e100, W100, st100⟩ := stZ X97 hx hZ e97 Ar99 (j := (3 : Int32)) hin99 (g := (mkF m 32 #[.val (.int p0), .val (.int (3 : Int32)), .val (.ref u3), .unset] [(.int (1 : Int32)), (.int (3 : Int32)), (.ref b88), (.ref b88)])) rfl rfl (hb hby at_32)
    have V100 : Arv Z h100 b88 k88 .boolean (6 : Int32) [(.int (nar .boolean (0 : Int32))), (.int (nar .boolean (0 : Int32))), (.int (nar .boolean (0 : Int32))), (.int (nar .boolean (1 : Int32))), (.int (0 : Int32)), (.int (0 : Int32))] (.int (0 : Int32)) := Arv.set Ar99 q99 Sz99 Nz99 Hs99 Gs99 (fits_nar_bool _) W100 3 rfl (Nat.le_of_ble_eq_true rfl)
    have Z101 : n0 ≤ h100.size := Nat.le_trans Z98 (Keep.of_wr W100).1
    have N100 := Fr.snoc X100 N97 g_b88
    obtain ⟨cl102, Ar102, q102, Sz102, Nz102, Hs102, Gs102⟩ := V100
    have hin102 : ¬ ((4 : Int32) < 0 ∨ cl102.slots.size ≤ ((4 : Int32)).toNatClampNeg) := inb_of Sz102 ⟨by decide, by decide⟩
    obtain ⟨T103, h103, X103, e103, W103, st103⟩ := stZ X100 hx hZ e100 Ar102 (j := (4 : Int32)) hin102 (g := (mkF m 36 #[.val (.int p0), .val (.int (3 : Int32)), .val (.ref u3), .unset] [(.int (1 : Int32)), (.int (4 : Int32)), (.ref b88), (.ref b88)])) rfl rfl (hb hby at_36)
    have V103 : Arv Z h103 b88 k88 .boolean (6 : Int32) [(.int (nar .boolean (0 : Int32))), (.int (nar .boolean (0 : Int32))), (.int (nar .boolean (0 : Int32))), (.int (nar .boolean (1 : Int32))), (.int (nar .boolean (1 : Int32))), (.int (0 : Int32))] (.int (0 : Int32)) := Arv.set Ar102 q102 Sz102 Nz102 Hs102 Gs102 (fits_nar_bool _) W103 4 rfl (Nat.le_of_ble_eq_true rfl)
    have Z104 : n0 ≤ h103.size := Nat.le_trans Z101 (Keep.of_wr W103).1
    have N103 := Fr.snoc X103 N100 g_b88
    obtain ⟨cl105, Ar105, q105, Sz105, Nz105, Hs105, Gs105⟩ := V103
    have hin105 : ¬ ((5 : Int32) < 0 ∨ cl105.slots.size ≤ ((5 : Int32)).toNatClampNeg) := inb_of Sz105 ⟨by decide, by decide⟩
    obtain ⟨T106, h106, X106, e106, W106, st106⟩ := stZ X103 hx hZ e103 Ar105 (j := (5 : Int32)) hin105 (g := (mkF m 40 #[.val (.int p0), .val (.int (3 : Int32)), .val (.ref u3), .unset] [(.int (1 : Int32)), (.int (5 : Int32)), (.ref b88), (.ref b88)])) rfl rfl (hb hby at_40)
    have V106 : Arv Z h106 b88 k88 .boolean (6 : Int32) [(.int (nar .boolean (0 : Int32))), (.int (nar .boolean (0 : Int32))), (.int (nar .boolean (0 : Int32))), (.int (nar .boolean (1 : Int32))), (.int (nar .boolean (1 : Int32))), (.int (nar .boolean (1 : Int32)))] (.int (0 : Int32)) := Arv.set Ar105 q105 Sz105 Nz105 Hs105 Gs105 (fits_nar_bool _) W106 5 rfl (Nat.le_of_ble_eq_true rfl)
    have Z107 : n0 ≤ h106.size := Nat.le_trans Z104 (Keep.of_wr W106).1
    have N106 := Fr.snoc X106 N103 g_b88
    have c108 : Sta Z h106 "com/example/semijoin/semijoin/jpql/Block$Use" "NOT_EXISTS" "Lcom/example/semijoin/semijoin/jpql/Block$Use;" (.ref u3) := (((((((S3.ext E88).wr W91).wr W94).wr W97).wr W100).wr W103).wr W106)
    have c109 : Sta Z h106 "com/example/semijoin/semijoin/jpql/Block$Use" "EXCLUDED" "Lcom/example/semijoin/semijoin/jpql/Block$Use;" (.ref u4) := (((((((S4.ext E88).wr W91).wr W94).wr W97).wr W100).wr W103).wr W106)
    have c110 : Sta Z h106 "com/example/semijoin/semijoin/jpql/Block$Use" "SCALAR" "Lcom/example/semijoin/semijoin/jpql/Block$Use;" (.ref u5) := (((((((S5.ext E88).wr W91).wr W94).wr W97).wr W100).wr W103).wr W106)
    have c112 : Exa Z h106 u3 "com/example/semijoin/semijoin/jpql/Block$Use" := (((((((E3.ext E88).wr W91).wr W94).wr W97).wr W100).wr W103).wr W106)
    obtain ⟨cq111, kq111, q111a, q111b, q111c⟩ := isOf hZ e106 c112
    obtain ⟨_, _, ⟨T111, L111, k111, n111⟩, -, X111, ⟨Lc111, hQ111, l111, y111, z111⟩, st111⟩ := X106.virtualBack hx (y := (⟨"com/example/semijoin/semijoin/jpql/Block$Use", "keepsUnmatchedRows", "()Z"⟩ : MethodName)) (z := (⟨"com/example/semijoin/semijoin/jpql/Block$Use", "keepsUnmatchedRows", "()Z"⟩ : MethodName)) hown (mvT hZ (hw _ (List.mem_of_getElem? (i := 9) rfl))) (mvT hZ (hw _ (List.mem_of_getElem? (i := 10) rfl))) (notFace_of_selects (args := #[]) (mvT hZ (hw _ (List.mem_of_getElem? (i := 12) rfl)))) (mvT hZ (hw _ (List.mem_of_getElem? (i := 12) rfl))) (mvT hZ (hw _ (List.mem_of_getElem? (i := 11) rfl))) (by decide) (backOf (W := 0) (rm2 l Z a0 hw [] u3 u3 u4 u5 (1 : Int32) h106 n0 Z107 c108 c109 c110 (if_pos (Or.inl rfl))) hZ (hw _ (List.mem_of_getElem? (i := 13) rfl)) (hw _ (List.mem_of_getElem? (i := 6) rfl)) (by decide) (by decide)) q111a q111c (g := (mkF m 43 #[.val (.int p0), .val (.int (3 : Int32)), .val (.ref u3), .val (.ref b88)] [(.ref u3)])) rfl (by rw [hml]; rfl) (Steps.refl _) (argsL := []) (rest := []) (lenOf pd_1 rfl) rfl (by show 2 * 0 + _ ≤ _; exact Nat.le_of_eq rfl) (hb hby at_43) (fun _ _ => ⟨rfl, e106, (by decide : 1 + 0 ≤ _), (by decide : 6 + 0 ≤ _)⟩)
    dsimp only [Pt.U, Pt.locs, Pt.cells, Pt.slots] at X111 l111 y111 z111 st111 hQ111
    subst l111 y111 z111
    obtain ⟨rfl, Nq111, hh111⟩ := hQ111
    have N111 := Fr.app N106 Nq111
    have e111 : T111.heap = h106 := hh111
    obtain ⟨cl113, Ar113, -, Sz113, Nz113, Hs113, Gs113⟩ := V106
    have hin113 : ¬ ((3 : Int32) < 0 ∨ cl113.slots.size ≤ ((3 : Int32)).toNatClampNeg) := inb_of Sz113 ⟨by decide, by decide⟩
    have hat113 : cl113.slots[((3 : Int32)).toNatClampNeg]? = some (.int (1 : Int32)) := Hs113.at hin113 rfl
    have pre114 : ∀ t, Steps p.tables e below (T111.setTop (mkF m 57 #[.val (.int p0), .val (.int (3 : Int32)), .val (.ref u3), .val (.ref b88)] [(.int (1 : Int32))])) t → Steps p.tables e below (s₁.setTop (entryFrame m #[(.int p0)] maxLocals)) t := fun t k => by
      refine pre1 t ?_
      show Steps p.tables e below (T1.setTop (mkF m 7 #[.val (.int p0), .unset, .unset, .unset] [(.int (3 : Int32))])) _
      refine XS.istoreN X1.here hx rfl (hb hby at_7) rfl (l' := #[.val (.int p0), .val (.int (3 : Int32)), .unset, .unset]) rfl ?_
      show Steps p.tables e below (T1.setTop (mkF m 8 #[.val (.int p0), .val (.int (3 : Int32)), .unset, .unset] [])) _
      refine XS.iloadN X1.here hx rfl (hb hby at_8) rfl ?_
      show Steps p.tables e below (T1.setTop (mkF m 9 #[.val (.int p0), .val (.int (3 : Int32)), .unset, .unset] [(.int (3 : Int32))])) _
      refine st87 _ ?_
      show Steps p.tables e below (T87.setTop (mkF m 12 #[.val (.int p0), .val (.int (3 : Int32)), .unset, .unset] [(.ref u3)])) _
      refine XS.astoreN X87.here hx rfl (hb hby at_12) rfl rfl (l' := #[.val (.int p0), .val (.int (3 : Int32)), .val (.ref u3), .unset]) rfl ?_
      show Steps p.tables e below (T87.setTop (mkF m 13 #[.val (.int p0), .val (.int (3 : Int32)), .val (.ref u3), .unset] [])) _
      refine XS.bipush X87.here hx rfl (hb hby at_13) ?_
      show Steps p.tables e below (T87.setTop (mkF m 15 #[.val (.int p0), .val (.int (3 : Int32)), .val (.ref u3), .unset] [(.int (6 : Int32))])) _
      refine st88 _ ?_
      show Steps p.tables e below (T88.setTop (mkF m 17 #[.val (.int p0), .val (.int (3 : Int32)), .val (.ref u3), .unset] [(.ref b88)])) _
      refine XS.dup X88.here hx rfl (hb hby at_17) rfl rfl ?_
      show Steps p.tables e below (T88.setTop (mkF m 18 #[.val (.int p0), .val (.int (3 : Int32)), .val (.ref u3), .unset] [(.ref b88), (.ref b88)])) _
      refine XS.iconst X88.here hx rfl (hb hby at_18) ?_
      show Steps p.tables e below (T88.setTop (mkF m 19 #[.val (.int p0), .val (.int (3 : Int32)), .val (.ref u3), .unset] [(.int (0 : Int32)), (.ref b88), (.ref b88)])) _
      refine XS.iconst X88.here hx rfl (hb hby at_19) ?_
      show Steps p.tables e below (T88.setTop (mkF m 20 #[.val (.int p0), .val (.int (3 : Int32)), .val (.ref u3), .unset] [(.int (0 : Int32)), (.int (0 : Int32)), (.ref b88), (.ref b88)])) _
      refine st91 _ ?_
      show Steps p.tables e below (T91.setTop (mkF m 21 #[.val (.int p0), .val (.int (3 : Int32)), .val (.ref u3), .unset] [(.ref b88)])) _
      refine XS.dup X91.here hx rfl (hb hby at_21) rfl rfl ?_
      show Steps p.tables e below (T91.setTop (mkF m 22 #[.val (.int p0), .val (.int (3 : Int32)), .val (.ref u3), .unset] [(.ref b88), (.ref b88)])) _
      refine XS.iconst X91.here hx rfl (hb hby at_22) ?_
      show Steps p.tables e below (T91.setTop (mkF m 23 #[.val (.int p0), .val (.int (3 : Int32)), .val (.ref u3), .unset] [(.int (1 : Int32)), (.ref b88), (.ref b88)])) _
      refine XS.iconst X91.here hx rfl (hb hby at_23) ?_
      show Steps p.tables e below (T91.setTop (mkF m 24 #[.val (.int p0), .val (.int (3 : Int32)), .val (.ref u3), .unset] [(.int (0 : Int32)), (.int (1 : Int32)), (.ref b88), (.ref b88)])) _
      refine st94 _ ?_
      show Steps p.tables e below (T94.setTop (mkF m 25 #[.val (.int p0), .val (.int (3 : Int32)), .val (.ref u3), .unset] [(.ref b88)])) _
      refine XS.dup X94.here hx rfl (hb hby at_25) rfl rfl ?_
      show Steps p.tables e below (T94.setTop (mkF m 26 #[.val (.int p0), .val (.int (3 : Int32)), .val (.ref u3), .unset] [(.ref b88), (.ref b88)])) _
      refine XS.iconst X94.here hx rfl (hb hby at_26) ?_
      show Steps p.tables e below (T94.setTop (mkF m 27 #[.val (.int p0), .val (.int (3 : Int32)), .val (.ref u3), .unset] [(.int (2 : Int32)), (.ref b88), (.ref b88)])) _
      refine XS.iconst X94.here hx rfl (hb hby at_27) ?_
      show Steps p.tables e below (T94.setTop (mkF m 28 #[.val (.int p0), .val (.int (3 : Int32)), .val (.ref u3), .unset] [(.int (0 : Int32)), (.int (2 : Int32)), (.ref b88), (.ref b88)])) _
      refine st97 _ ?_
      show Steps p.tables e below (T97.setTop (mkF m 29 #[.val (.int p0), .val (.int (3 : Int32)), .val (.ref u3), .unset] [(.ref b88)])) _
      refine XS.dup X97.here hx rfl (hb hby at_29) rfl rfl ?_
      show Steps p.tables e below (T97.setTop (mkF m 30 #[.val (.int p0), .val (.int (3 : Int32)), .val (.ref u3), .unset] [(.ref b88), (.ref b88)])) _
      refine XS.iconst X97.here hx rfl (hb hby at_30) ?_
      show Steps p.tables e below (T97.setTop (mkF m 31 #[.val (.int p0), .val (.int (3 : Int32)), .val (.ref u3), .unset] [(.int (3 : Int32)), (.ref b88), (.ref b88)])) _
      refine XS.iconst X97.here hx rfl (hb hby at_31) ?_
      show Steps p.tables e below (T97.setTop (mkF m 32 #[.val (.int p0), .val (.int (3 : Int32)), .val (.ref u3), .unset] [(.int (1 : Int32)), (.int (3 : Int32)), (.ref b88), (.ref b88)])) _
      refine st100 _ ?_
      show Steps p.tables e below (T100.setTop (mkF m 33 #[.val (.int p0), .val (.int (3 : Int32)), .val (.ref u3), .unset] [(.ref b88)])) _
      refine XS.dup X100.here hx rfl (hb hby at_33) rfl rfl ?_
      show Steps p.tables e below (T100.setTop (mkF m 34 #[.val (.int p0), .val (.int (3 : Int32)), .val (.ref u3), .unset] [(.ref b88), (.ref b88)])) _
      refine XS.iconst X100.here hx rfl (hb hby at_34) ?_
      show Steps p.tables e below (T100.setTop (mkF m 35 #[.val (.int p0), .val (.int (3 : Int32)), .val (.ref u3), .unset] [(.int (4 : Int32)), (.ref b88), (.ref b88)])) _
      refine XS.iconst X100.here hx rfl (hb hby at_35) ?_
      show Steps p.tables e below (T100.setTop (mkF m 36 #[.val (.int p0), .val (.int (3 : Int32)), .val (.ref u3), .unset] [(.int (1 : Int32)), (.int (4 : Int32)), (.ref b88), (.ref b88)])) _
      refine st103 _ ?_
      show Steps p.tables e below (T103.setTop (mkF m 37 #[.val (.int p0), .val (.int (3 : Int32)), .val (.ref u3), .unset] [(.ref b88)])) _
      refine XS.dup X103.here hx rfl (hb hby at_37) rfl rfl ?_
      show Steps p.tables e below (T103.setTop (mkF m 38 #[.val (.int p0), .val (.int (3 : Int32)), .val (.ref u3), .unset] [(.ref b88), (.ref b88)])) _
      refine XS.iconst X103.here hx rfl (hb hby at_38) ?_
      show Steps p.tables e below (T103.setTop (mkF m 39 #[.val (.int p0), .val (.int (3 : Int32)), .val (.ref u3), .unset] [(.int (5 : Int32)), (.ref b88), (.ref b88)])) _
      refine XS.iconst X103.here hx rfl (hb hby at_39) ?_
      show Steps p.tables e below (T103.setTop (mkF m 40 #[.val (.int p0), .val (.int (3 : Int32)), .val (.ref u3), .unset] [(.int (1 : Int32)), (.int (5 : Int32)), (.ref b88), (.ref b88)])) _
      refine st106 _ ?_
      show Steps p.tables e below (T106.setTop (mkF m 41 #[.val (.int p0), .val (.int (3 : Int32)), .val (.ref u3), .unset] [(.ref b88)])) _
      refine XS.astoreN X106.here hx rfl (hb hby at_41) rfl rfl (l' := #[.val (.int p0), .val (.int (3 : Int32)), .val (.ref u3), .val (.ref b88)]) rfl ?_
      show Steps p.tables e below (T106.setTop (mkF m 42 #[.val (.int p0), .val (.int (3 : Int32)), .val (.ref u3), .val (.ref b88)] [])) _
      refine XS.aloadN X106.here hx rfl (hb hby at_42) rfl rfl ?_
      show Steps p.tables e below (T106.setTop (mkF m 43 #[.val (.int p0), .val (.int (3 : Int32)), .val (.ref u3), .val (.ref b88)] [(.ref u3)])) _
      refine st111.trans ?_
      show Steps p.tables e below (T111.setTop (mkF m 46 #[.val (.int p0), .val (.int (3 : Int32)), .val (.ref u3), .val (.ref b88)] [(.int (1 : Int32))])) _
      refine XS.aloadN X111.here hx rfl (hb hby at_46) rfl rfl ?_
      show Steps p.tables e below (T111.setTop (mkF m 47 #[.val (.int p0), .val (.int (3 : Int32)), .val (.ref u3), .val (.ref b88)] [(.ref b88), (.int (1 : Int32))])) _
      refine XS.iloadN X111.here hx rfl (hb hby at_47) rfl ?_
      show Steps p.tables e below (T111.setTop (mkF m 48 #[.val (.int p0), .val (.int (3 : Int32)), .val (.ref u3), .val (.ref b88)] [(.int (3 : Int32)), (.ref b88), (.int (1 : Int32))])) _
      refine X111.baloadBooleans hx (j := (3 : Int32)) (v := (.int (1 : Int32))) (by rw [e111]; exact Ar113.1) (State.isArrayOf_alike hZ.alike Ar113.2.1) Ar113.2.2 hin113 hat113 (g := (mkF m 48 #[.val (.int p0), .val (.int (3 : Int32)), .val (.ref u3), .val (.ref b88)] [(.int (3 : Int32)), (.ref b88), (.int (1 : Int32))])) rfl rfl (hb hby at_48) _ ?_
      show Steps p.tables e below (T111.setTop (mkF m 49 #[.val (.int p0), .val (.int (3 : Int32)), .val (.ref u3), .val (.ref b88)] [(.int (1 : Int32)), (.int (1 : Int32))])) _
      refine XS.icmpNo X111.here hx rfl (hb hby at_49) rfl (teq (by decide : (1 : Int32) = (1 : Int32))).2 ?_
      show Steps p.tables e below (T111.setTop (mkF m 52 #[.val (.int p0), .val (.int (3 : Int32)), .val (.ref u3), .val (.ref b88)] [])) _
      refine XS.iconst X111.here hx rfl (hb hby at_52) ?_
      show Steps p.tables e below (T111.setTop (mkF m 53 #[.val (.int p0), .val (.int (3 : Int32)), .val (.ref u3), .val (.ref b88)] [(.int (1 : Int32))])) _
      refine XS.goto X111.here hx rfl (pc0 := 53) (pc' := 57) rfl (hb hby at_53) (by decide) (by decide) ?_
      exact k
    obtain ⟨fs, hrq, hrun, hended, hW, hsame⟩ := X111.leave (v := some (.int (1 : Int32))) (fun h => by rw [Bd.returns] at h; cases h)
    refine ⟨_, _, pre114 _ ?_, hrun, hended, _, _, rfl, ?_, ⟨_, rfl⟩, hW, hsame.mono (by decide) (by decide)⟩
    · show Steps p.tables e below (T111.setTop (mkF m 57 #[.val (.int p0), .val (.int (3 : Int32)), .val (.ref u3), .val (.ref b88)] [(.int (1 : Int32))])) _
      exact retN X111 hx (t := .boolean) Bd.returns (by simp) (hb hby at_57) hrq
    · show Q0 Z p0 u0 u1 u2 u3 u4 u5 h0 n0 _ T111.heap _
      rw [e111]
      exact ⟨rfl, N111⟩
  · obtain ⟨_, _, ⟨T115, L115, k115, n115⟩, -, X115, ⟨Lc115, hQ115, l115, y115, z115⟩, st115⟩ := Jvm.LawKit.callS X1 hx (y := (⟨"com/example/semijoin/semijoin/jpql/UseKeepsUnmatchedRowsPinLaw", "useAt", "(I)Lcom/example/semijoin/semijoin/jpql/Block$Use;"⟩ : MethodName)) hown (mvT hZ (hw _ (List.mem_of_getElem? (i := 1) rfl))) (mvT hZ (hw _ (List.mem_of_getElem? (i := 2) rfl))) (mvT hZ (hw _ (List.mem_of_getElem? (i := 3) rfl))) (mvT hZ (hw _ (List.mem_of_getElem? (i := 4) rfl))) (by decide) (backOf (W := 0) (rm1 l Z a0 hw [] (4 : Int32) u0 u1 u2 u3 u4 u5 u4 h0 n0 Z0 S0 S1 S2 S3 S4 S5 (by simp [own_sel])) hZ (hw _ (List.mem_of_getElem? (i := 4) rfl)) (hw _ (List.mem_of_getElem? (i := 3) rfl)) (by decide) (by decide)) (g := (mkF m 9 #[.val (.int p0), .val (.int (4 : Int32)), .unset, .unset] [(.int (4 : Int32))])) rfl (by rw [hml]; rfl) (argsL := [(.int (4 : Int32))]) (rest := []) (lenOf pd_0 rfl) rfl (by show 2 * 0 + _ ≤ _; exact Nat.le_of_eq rfl) (hb hby at_9) (fun _ _ => ⟨rfl, e1, (by decide : 0 + 0 ≤ _), (by decide : 0 + 0 ≤ _)⟩)
    dsimp only [Pt.U, Pt.locs, Pt.cells, Pt.slots] at X115 l115 y115 z115 st115 hQ115
    subst l115 y115 z115
    obtain ⟨rfl, Nq115, hh115⟩ := hQ115
    have N115 := Fr.app N1 Nq115
    have e115 : T115.heap = h0 := hh115
    obtain ⟨T116, h116, k116, X116, e116, E116, A116, st116⟩ := newP X115 hx hZ (hw _ (List.mem_of_getElem? (i := 8) rfl)) e115 (g := (mkF m 15 #[.val (.int p0), .val (.int (4 : Int32)), .val (.ref u4), .unset] [(.int (6 : Int32))])) rfl (hb hby at_15) rfl (by decide) (cap := 6) (by decide) (by decide) (by decide) (by decide)
    obtain ⟨b116, g116⟩ : ∃ z, z = h0.size := ⟨_, rfl⟩
    rw [← g116] at A116 st116
    have g_b116 : n0 ≤ b116 := Nat.le_trans Z0 (Nat.le_of_eq g116.symm)
    have Z117 : n0 ≤ h116.size := Nat.le_trans Z0 E116.1
    have V116 : Arv Z h116 b116 k116 .boolean (6 : Int32) [(.int (0 : Int32)), (.int (0 : Int32)), (.int (0 : Int32)), (.int (0 : Int32)), (.int (0 : Int32)), (.int (0 : Int32))] (.int (0 : Int32)) := (Arv.new A116 (by decide)).pad (pad_rep [] (.int (0 : Int32)) 6)
    obtain ⟨cl118, Ar118, q118, Sz118, Nz118, Hs118, Gs118⟩ := V116
    have hin118 : ¬ ((0 : Int32) < 0 ∨ cl118.slots.size ≤ ((0 : Int32)).toNatClampNeg) := inb_of Sz118 ⟨by decide, by decide⟩
    obtain ⟨T119, h119, X119, e119, W119, st119⟩ := stZ X116 hx hZ e116 Ar118 (j := (0 : Int32)) hin118 (g := (mkF m 20 #[.val (.int p0), .val (.int (4 : Int32)), .val (.ref u4), .unset] [(.int (0 : Int32)), (.int (0 : Int32)), (.ref b116), (.ref b116)])) rfl rfl (hb hby at_20)
    have V119 : Arv Z h119 b116 k116 .boolean (6 : Int32) [(.int (nar .boolean (0 : Int32))), (.int (0 : Int32)), (.int (0 : Int32)), (.int (0 : Int32)), (.int (0 : Int32)), (.int (0 : Int32))] (.int (0 : Int32)) := Arv.set Ar118 q118 Sz118 Nz118 Hs118 Gs118 (fits_nar_bool _) W119 0 rfl (Nat.le_of_ble_eq_true rfl)
    have Z120 : n0 ≤ h119.size := Nat.le_trans Z117 (Keep.of_wr W119).1
    have N119 := Fr.snoc X119 N115 g_b116
    obtain ⟨cl121, Ar121, q121, Sz121, Nz121, Hs121, Gs121⟩ := V119
    have hin121 : ¬ ((1 : Int32) < 0 ∨ cl121.slots.size ≤ ((1 : Int32)).toNatClampNeg) := inb_of Sz121 ⟨by decide, by decide⟩
    obtain ⟨T122, h122, X122, e122, W122, st122⟩ := stZ X119 hx hZ e119 Ar121 (j := (1 : Int32)) hin121 (g := (mkF m 24 #[.val (.int p0), .val (.int (4 : Int32)), .val (.ref u4), .unset] [(.int (0 : Int32)), (.int (1 : Int32)), (.ref b116), (.ref b116)])) rfl rfl (hb hby at_24)
    have V122 : Arv Z h122 b116 k116 .boolean (6 : Int32) [(.int (nar .boolean (0 : Int32))), (.int (nar .boolean (0 : Int32))), (.int (0 : Int32)), (.int (0 : Int32)), (.int (0 : Int32)), (.int (0 : Int32))] (.int (0 : Int32)) := Arv.set Ar121 q121 Sz121 Nz121 Hs121 Gs121 (fits_nar_bool _) W122 1 rfl (Nat.le_of_ble_eq_true rfl)
    have Z123 : n0 ≤ h122.size := Nat.le_trans Z120 (Keep.of_wr W122).1
    have N122 := Fr.snoc X122 N119 g_b116
    obtain ⟨cl124, Ar124, q124, Sz124, Nz124, Hs124, Gs124⟩ := V122
    have hin124 : ¬ ((2 : Int32) < 0 ∨ cl124.slots.size ≤ ((2 : Int32)).toNatClampNeg) := inb_of Sz124 ⟨by decide, by decide⟩
    obtain ⟨T125, h125, X125, e125, W125, st125⟩ := stZ X122 hx hZ e122 Ar124 (j := (2 : Int32)) hin124 (g := (mkF m 28 #[.val (.int p0), .val (.int (4 : Int32)), .val (.ref u4), .unset] [(.int (0 : Int32)), (.int (2 : Int32)), (.ref b116), (.ref b116)])) rfl rfl (hb hby at_28)
    have V125 : Arv Z h125 b116 k116 .boolean (6 : Int32) [(.int (nar .boolean (0 : Int32))), (.int (nar .boolean (0 : Int32))), (.int (nar .boolean (0 : Int32))), (.int (0 : Int32)), (.int (0 : Int32)), (.int (0 : Int32))] (.int (0 : Int32)) := Arv.set Ar124 q124 Sz124 Nz124 Hs124 Gs124 (fits_nar_bool _) W125 2 rfl (Nat.le_of_ble_eq_true rfl)
    have Z126 : n0 ≤ h125.size := Nat.le_trans Z123 (Keep.of_wr W125).1
    have N125 := Fr.snoc X125 N122 g_b116
    obtain ⟨cl127, Ar127, q127, Sz127, Nz127, Hs127, Gs127⟩ := V125
    have hin127 : ¬ ((3 : Int32) < 0 ∨ cl127.slots.size ≤ ((3 : Int32)).toNatClampNeg) := inb_of Sz127 ⟨by decide, by decide⟩
    obtain ⟨T128, h128, X128, e128, W128, st128⟩ := stZ X125 hx hZ e125 Ar127 (j := (3 : Int32)) hin127 (g := (mkF m 32 #[.val (.int p0), .val (.int (4 : Int32)), .val (.ref u4), .unset] [(.int (1 : Int32)), (.int (3 : Int32)), (.ref b116), (.ref b116)])) rfl rfl (hb hby at_32)
    have V128 : Arv Z h128 b116 k116 .boolean (6 : Int32) [(.int (nar .boolean (0 : Int32))), (.int (nar .boolean (0 : Int32))), (.int (nar .boolean (0 : Int32))), (.int (nar .boolean (1 : Int32))), (.int (0 : Int32)), (.int (0 : Int32))] (.int (0 : Int32)) := Arv.set Ar127 q127 Sz127 Nz127 Hs127 Gs127 (fits_nar_bool _) W128 3 rfl (Nat.le_of_ble_eq_true rfl)
    have Z129 : n0 ≤ h128.size := Nat.le_trans Z126 (Keep.of_wr W128).1
    have N128 := Fr.snoc X128 N125 g_b116
    obtain ⟨cl130, Ar130, q130, Sz130, Nz130, Hs130, Gs130⟩ := V128
    have hin130 : ¬ ((4 : Int32) < 0 ∨ cl130.slots.size ≤ ((4 : Int32)).toNatClampNeg) := inb_of Sz130 ⟨by decide, by decide⟩
    obtain ⟨T131, h131, X131, e131, W131, st131⟩ := stZ X128 hx hZ e128 Ar130 (j := (4 : Int32)) hin130 (g := (mkF m 36 #[.val (.int p0), .val (.int (4 : Int32)), .val (.ref u4), .unset] [(.int (1 : Int32)), (.int (4 : Int32)), (.ref b116), (.ref b116)])) rfl rfl (hb hby at_36)
    have V131 : Arv Z h131 b116 k116 .boolean (6 : Int32) [(.int (nar .boolean (0 : Int32))), (.int (nar .boolean (0 : Int32))), (.int (nar .boolean (0 : Int32))), (.int (nar .boolean (1 : Int32))), (.int (nar .boolean (1 : Int32))), (.int (0 : Int32))] (.int (0 : Int32)) := Arv.set Ar130 q130 Sz130 Nz130 Hs130 Gs130 (fits_nar_bool _) W131 4 rfl (Nat.le_of_ble_eq_true rfl)
    have Z132 : n0 ≤ h131.size := Nat.le_trans Z129 (Keep.of_wr W131).1
    have N131 := Fr.snoc X131 N128 g_b116
    obtain ⟨cl133, Ar133, q133, Sz133, Nz133, Hs133, Gs133⟩ := V131
    have hin133 : ¬ ((5 : Int32) < 0 ∨ cl133.slots.size ≤ ((5 : Int32)).toNatClampNeg) := inb_of Sz133 ⟨by decide, by decide⟩
    obtain ⟨T134, h134, X134, e134, W134, st134⟩ := stZ X131 hx hZ e131 Ar133 (j := (5 : Int32)) hin133 (g := (mkF m 40 #[.val (.int p0), .val (.int (4 : Int32)), .val (.ref u4), .unset] [(.int (1 : Int32)), (.int (5 : Int32)), (.ref b116), (.ref b116)])) rfl rfl (hb hby at_40)
    have V134 : Arv Z h134 b116 k116 .boolean (6 : Int32) [(.int (nar .boolean (0 : Int32))), (.int (nar .boolean (0 : Int32))), (.int (nar .boolean (0 : Int32))), (.int (nar .boolean (1 : Int32))), (.int (nar .boolean (1 : Int32))), (.int (nar .boolean (1 : Int32)))] (.int (0 : Int32)) := Arv.set Ar133 q133 Sz133 Nz133 Hs133 Gs133 (fits_nar_bool _) W134 5 rfl (Nat.le_of_ble_eq_true rfl)
    have Z135 : n0 ≤ h134.size := Nat.le_trans Z132 (Keep.of_wr W134).1
    have N134 := Fr.snoc X134 N131 g_b116
    have c136 : Sta Z h134 "com/example/semijoin/semijoin/jpql/Block$Use" "NOT_EXISTS" "Lcom/example/semijoin/semijoin/jpql/Block$Use;" (.ref u3) := (((((((S3.ext E116).wr W119).wr W122).wr W125).wr W128).wr W131).wr W134)
    have c137 : Sta Z h134 "com/example/semijoin/semijoin/jpql/Block$Use" "EXCLUDED" "Lcom/example/semijoin/semijoin/jpql/Block$Use;" (.ref u4) := (((((((S4.ext E116).wr W119).wr W122).wr W125).wr W128).wr W131).wr W134)
    have c138 : Sta Z h134 "com/example/semijoin/semijoin/jpql/Block$Use" "SCALAR" "Lcom/example/semijoin/semijoin/jpql/Block$Use;" (.ref u5) := (((((((S5.ext E116).wr W119).wr W122).wr W125).wr W128).wr W131).wr W134)
    have c140 : Exa Z h134 u4 "com/example/semijoin/semijoin/jpql/Block$Use" := (((((((E4.ext E116).wr W119).wr W122).wr W125).wr W128).wr W131).wr W134)
    obtain ⟨cq139, kq139, q139a, q139b, q139c⟩ := isOf hZ e134 c140
    obtain ⟨_, _, ⟨T139, L139, k139, n139⟩, -, X139, ⟨Lc139, hQ139, l139, y139, z139⟩, st139⟩ := X134.virtualBack hx (y := (⟨"com/example/semijoin/semijoin/jpql/Block$Use", "keepsUnmatchedRows", "()Z"⟩ : MethodName)) (z := (⟨"com/example/semijoin/semijoin/jpql/Block$Use", "keepsUnmatchedRows", "()Z"⟩ : MethodName)) hown (mvT hZ (hw _ (List.mem_of_getElem? (i := 9) rfl))) (mvT hZ (hw _ (List.mem_of_getElem? (i := 10) rfl))) (notFace_of_selects (args := #[]) (mvT hZ (hw _ (List.mem_of_getElem? (i := 12) rfl)))) (mvT hZ (hw _ (List.mem_of_getElem? (i := 12) rfl))) (mvT hZ (hw _ (List.mem_of_getElem? (i := 11) rfl))) (by decide) (backOf (W := 0) (rm2 l Z a0 hw [] u4 u3 u4 u5 (1 : Int32) h134 n0 Z135 c136 c137 c138 (if_pos (Or.inr (Or.inl rfl)))) hZ (hw _ (List.mem_of_getElem? (i := 13) rfl)) (hw _ (List.mem_of_getElem? (i := 6) rfl)) (by decide) (by decide)) q139a q139c (g := (mkF m 43 #[.val (.int p0), .val (.int (4 : Int32)), .val (.ref u4), .val (.ref b116)] [(.ref u4)])) rfl (by rw [hml]; rfl) (Steps.refl _) (argsL := []) (rest := []) (lenOf pd_1 rfl) rfl (by show 2 * 0 + _ ≤ _; exact Nat.le_of_eq rfl) (hb hby at_43) (fun _ _ => ⟨rfl, e134, (by decide : 1 + 0 ≤ _), (by decide : 6 + 0 ≤ _)⟩)
    dsimp only [Pt.U, Pt.locs, Pt.cells, Pt.slots] at X139 l139 y139 z139 st139 hQ139
    subst l139 y139 z139
    obtain ⟨rfl, Nq139, hh139⟩ := hQ139
    have N139 := Fr.app N134 Nq139
    have e139 : T139.heap = h134 := hh139
    obtain ⟨cl141, Ar141, -, Sz141, Nz141, Hs141, Gs141⟩ := V134
    have hin141 : ¬ ((4 : Int32) < 0 ∨ cl141.slots.size ≤ ((4 : Int32)).toNatClampNeg) := inb_of Sz141 ⟨by decide, by decide⟩
    have hat141 : cl141.slots[((4 : Int32)).toNatClampNeg]? = some (.int (1 : Int32)) := Hs141.at hin141 rfl
    have pre142 : ∀ t, Steps p.tables e below (T139.setTop (mkF m 57 #[.val (.int p0), .val (.int (4 : Int32)), .val (.ref u4), .val (.ref b116)] [(.int (1 : Int32))])) t → Steps p.tables e below (s₁.setTop (entryFrame m #[(.int p0)] maxLocals)) t := fun t k => by
      refine pre1 t ?_
      show Steps p.tables e below (T1.setTop (mkF m 7 #[.val (.int p0), .unset, .unset, .unset] [(.int (4 : Int32))])) _
      refine XS.istoreN X1.here hx rfl (hb hby at_7) rfl (l' := #[.val (.int p0), .val (.int (4 : Int32)), .unset, .unset]) rfl ?_
      show Steps p.tables e below (T1.setTop (mkF m 8 #[.val (.int p0), .val (.int (4 : Int32)), .unset, .unset] [])) _
      refine XS.iloadN X1.here hx rfl (hb hby at_8) rfl ?_
      show Steps p.tables e below (T1.setTop (mkF m 9 #[.val (.int p0), .val (.int (4 : Int32)), .unset, .unset] [(.int (4 : Int32))])) _
      refine st115 _ ?_
      show Steps p.tables e below (T115.setTop (mkF m 12 #[.val (.int p0), .val (.int (4 : Int32)), .unset, .unset] [(.ref u4)])) _
      refine XS.astoreN X115.here hx rfl (hb hby at_12) rfl rfl (l' := #[.val (.int p0), .val (.int (4 : Int32)), .val (.ref u4), .unset]) rfl ?_
      show Steps p.tables e below (T115.setTop (mkF m 13 #[.val (.int p0), .val (.int (4 : Int32)), .val (.ref u4), .unset] [])) _
      refine XS.bipush X115.here hx rfl (hb hby at_13) ?_
      show Steps p.tables e below (T115.setTop (mkF m 15 #[.val (.int p0), .val (.int (4 : Int32)), .val (.ref u4), .unset] [(.int (6 : Int32))])) _
      refine st116 _ ?_
      show Steps p.tables e below (T116.setTop (mkF m 17 #[.val (.int p0), .val (.int (4 : Int32)), .val (.ref u4), .unset] [(.ref b116)])) _
      refine XS.dup X116.here hx rfl (hb hby at_17) rfl rfl ?_
      show Steps p.tables e below (T116.setTop (mkF m 18 #[.val (.int p0), .val (.int (4 : Int32)), .val (.ref u4), .unset] [(.ref b116), (.ref b116)])) _
      refine XS.iconst X116.here hx rfl (hb hby at_18) ?_
      show Steps p.tables e below (T116.setTop (mkF m 19 #[.val (.int p0), .val (.int (4 : Int32)), .val (.ref u4), .unset] [(.int (0 : Int32)), (.ref b116), (.ref b116)])) _
      refine XS.iconst X116.here hx rfl (hb hby at_19) ?_
      show Steps p.tables e below (T116.setTop (mkF m 20 #[.val (.int p0), .val (.int (4 : Int32)), .val (.ref u4), .unset] [(.int (0 : Int32)), (.int (0 : Int32)), (.ref b116), (.ref b116)])) _
      refine st119 _ ?_
      show Steps p.tables e below (T119.setTop (mkF m 21 #[.val (.int p0), .val (.int (4 : Int32)), .val (.ref u4), .unset] [(.ref b116)])) _
      refine XS.dup X119.here hx rfl (hb hby at_21) rfl rfl ?_
      show Steps p.tables e below (T119.setTop (mkF m 22 #[.val (.int p0), .val (.int (4 : Int32)), .val (.ref u4), .unset] [(.ref b116), (.ref b116)])) _
      refine XS.iconst X119.here hx rfl (hb hby at_22) ?_
      show Steps p.tables e below (T119.setTop (mkF m 23 #[.val (.int p0), .val (.int (4 : Int32)), .val (.ref u4), .unset] [(.int (1 : Int32)), (.ref b116), (.ref b116)])) _
      refine XS.iconst X119.here hx rfl (hb hby at_23) ?_
      show Steps p.tables e below (T119.setTop (mkF m 24 #[.val (.int p0), .val (.int (4 : Int32)), .val (.ref u4), .unset] [(.int (0 : Int32)), (.int (1 : Int32)), (.ref b116), (.ref b116)])) _
      refine st122 _ ?_
      show Steps p.tables e below (T122.setTop (mkF m 25 #[.val (.int p0), .val (.int (4 : Int32)), .val (.ref u4), .unset] [(.ref b116)])) _
      refine XS.dup X122.here hx rfl (hb hby at_25) rfl rfl ?_
      show Steps p.tables e below (T122.setTop (mkF m 26 #[.val (.int p0), .val (.int (4 : Int32)), .val (.ref u4), .unset] [(.ref b116), (.ref b116)])) _
      refine XS.iconst X122.here hx rfl (hb hby at_26) ?_
      show Steps p.tables e below (T122.setTop (mkF m 27 #[.val (.int p0), .val (.int (4 : Int32)), .val (.ref u4), .unset] [(.int (2 : Int32)), (.ref b116), (.ref b116)])) _
      refine XS.iconst X122.here hx rfl (hb hby at_27) ?_
      show Steps p.tables e below (T122.setTop (mkF m 28 #[.val (.int p0), .val (.int (4 : Int32)), .val (.ref u4), .unset] [(.int (0 : Int32)), (.int (2 : Int32)), (.ref b116), (.ref b116)])) _
      refine st125 _ ?_
      show Steps p.tables e below (T125.setTop (mkF m 29 #[.val (.int p0), .val (.int (4 : Int32)), .val (.ref u4), .unset] [(.ref b116)])) _
      refine XS.dup X125.here hx rfl (hb hby at_29) rfl rfl ?_
      show Steps p.tables e below (T125.setTop (mkF m 30 #[.val (.int p0), .val (.int (4 : Int32)), .val (.ref u4), .unset] [(.ref b116), (.ref b116)])) _
      refine XS.iconst X125.here hx rfl (hb hby at_30) ?_
      show Steps p.tables e below (T125.setTop (mkF m 31 #[.val (.int p0), .val (.int (4 : Int32)), .val (.ref u4), .unset] [(.int (3 : Int32)), (.ref b116), (.ref b116)])) _
      refine XS.iconst X125.here hx rfl (hb hby at_31) ?_
      show Steps p.tables e below (T125.setTop (mkF m 32 #[.val (.int p0), .val (.int (4 : Int32)), .val (.ref u4), .unset] [(.int (1 : Int32)), (.int (3 : Int32)), (.ref b116), (.ref b116)])) _
      refine st128 _ ?_
      show Steps p.tables e below (T128.setTop (mkF m 33 #[.val (.int p0), .val (.int (4 : Int32)), .val (.ref u4), .unset] [(.ref b116)])) _
      refine XS.dup X128.here hx rfl (hb hby at_33) rfl rfl ?_
      show Steps p.tables e below (T128.setTop (mkF m 34 #[.val (.int p0), .val (.int (4 : Int32)), .val (.ref u4), .unset] [(.ref b116), (.ref b116)])) _
      refine XS.iconst X128.here hx rfl (hb hby at_34) ?_
      show Steps p.tables e below (T128.setTop (mkF m 35 #[.val (.int p0), .val (.int (4 : Int32)), .val (.ref u4), .unset] [(.int (4 : Int32)), (.ref b116), (.ref b116)])) _
      refine XS.iconst X128.here hx rfl (hb hby at_35) ?_
      show Steps p.tables e below (T128.setTop (mkF m 36 #[.val (.int p0), .val (.int (4 : Int32)), .val (.ref u4), .unset] [(.int (1 : Int32)), (.int (4 : Int32)), (.ref b116), (.ref b116)])) _
      refine st131 _ ?_
      show Steps p.tables e below (T131.setTop (mkF m 37 #[.val (.int p0), .val (.int (4 : Int32)), .val (.ref u4), .unset] [(.ref b116)])) _
      refine XS.dup X131.here hx rfl (hb hby at_37) rfl rfl ?_
      show Steps p.tables e below (T131.setTop (mkF m 38 #[.val (.int p0), .val (.int (4 : Int32)), .val (.ref u4), .unset] [(.ref b116), (.ref b116)])) _
      refine XS.iconst X131.here hx rfl (hb hby at_38) ?_
      show Steps p.tables e below (T131.setTop (mkF m 39 #[.val (.int p0), .val (.int (4 : Int32)), .val (.ref u4), .unset] [(.int (5 : Int32)), (.ref b116), (.ref b116)])) _
      refine XS.iconst X131.here hx rfl (hb hby at_39) ?_
      show Steps p.tables e below (T131.setTop (mkF m 40 #[.val (.int p0), .val (.int (4 : Int32)), .val (.ref u4), .unset] [(.int (1 : Int32)), (.int (5 : Int32)), (.ref b116), (.ref b116)])) _
      refine st134 _ ?_
      show Steps p.tables e below (T134.setTop (mkF m 41 #[.val (.int p0), .val (.int (4 : Int32)), .val (.ref u4), .unset] [(.ref b116)])) _
      refine XS.astoreN X134.here hx rfl (hb hby at_41) rfl rfl (l' := #[.val (.int p0), .val (.int (4 : Int32)), .val (.ref u4), .val (.ref b116)]) rfl ?_
      show Steps p.tables e below (T134.setTop (mkF m 42 #[.val (.int p0), .val (.int (4 : Int32)), .val (.ref u4), .val (.ref b116)] [])) _
      refine XS.aloadN X134.here hx rfl (hb hby at_42) rfl rfl ?_
      show Steps p.tables e below (T134.setTop (mkF m 43 #[.val (.int p0), .val (.int (4 : Int32)), .val (.ref u4), .val (.ref b116)] [(.ref u4)])) _
      refine st139.trans ?_
      show Steps p.tables e below (T139.setTop (mkF m 46 #[.val (.int p0), .val (.int (4 : Int32)), .val (.ref u4), .val (.ref b116)] [(.int (1 : Int32))])) _
      refine XS.aloadN X139.here hx rfl (hb hby at_46) rfl rfl ?_
      show Steps p.tables e below (T139.setTop (mkF m 47 #[.val (.int p0), .val (.int (4 : Int32)), .val (.ref u4), .val (.ref b116)] [(.ref b116), (.int (1 : Int32))])) _
      refine XS.iloadN X139.here hx rfl (hb hby at_47) rfl ?_
      show Steps p.tables e below (T139.setTop (mkF m 48 #[.val (.int p0), .val (.int (4 : Int32)), .val (.ref u4), .val (.ref b116)] [(.int (4 : Int32)), (.ref b116), (.int (1 : Int32))])) _
      refine X139.baloadBooleans hx (j := (4 : Int32)) (v := (.int (1 : Int32))) (by rw [e139]; exact Ar141.1) (State.isArrayOf_alike hZ.alike Ar141.2.1) Ar141.2.2 hin141 hat141 (g := (mkF m 48 #[.val (.int p0), .val (.int (4 : Int32)), .val (.ref u4), .val (.ref b116)] [(.int (4 : Int32)), (.ref b116), (.int (1 : Int32))])) rfl rfl (hb hby at_48) _ ?_
      show Steps p.tables e below (T139.setTop (mkF m 49 #[.val (.int p0), .val (.int (4 : Int32)), .val (.ref u4), .val (.ref b116)] [(.int (1 : Int32)), (.int (1 : Int32))])) _
      refine XS.icmpNo X139.here hx rfl (hb hby at_49) rfl (teq (by decide : (1 : Int32) = (1 : Int32))).2 ?_
      show Steps p.tables e below (T139.setTop (mkF m 52 #[.val (.int p0), .val (.int (4 : Int32)), .val (.ref u4), .val (.ref b116)] [])) _
      refine XS.iconst X139.here hx rfl (hb hby at_52) ?_
      show Steps p.tables e below (T139.setTop (mkF m 53 #[.val (.int p0), .val (.int (4 : Int32)), .val (.ref u4), .val (.ref b116)] [(.int (1 : Int32))])) _
      refine XS.goto X139.here hx rfl (pc0 := 53) (pc' := 57) rfl (hb hby at_53) (by decide) (by decide) ?_
      exact k
    obtain ⟨fs, hrq, hrun, hended, hW, hsame⟩ := X139.leave (v := some (.int (1 : Int32))) (fun h => by rw [Bd.returns] at h; cases h)
    refine ⟨_, _, pre142 _ ?_, hrun, hended, _, _, rfl, ?_, ⟨_, rfl⟩, hW, hsame.mono (by decide) (by decide)⟩
    · show Steps p.tables e below (T139.setTop (mkF m 57 #[.val (.int p0), .val (.int (4 : Int32)), .val (.ref u4), .val (.ref b116)] [(.int (1 : Int32))])) _
      exact retN X139 hx (t := .boolean) Bd.returns (by simp) (hb hby at_57) hrq
    · show Q0 Z p0 u0 u1 u2 u3 u4 u5 h0 n0 _ T139.heap _
      rw [e139]
      exact ⟨rfl, N139⟩
  · obtain ⟨_, _, ⟨T143, L143, k143, n143⟩, -, X143, ⟨Lc143, hQ143, l143, y143, z143⟩, st143⟩ := Jvm.LawKit.callS X1 hx (y := (⟨"com/example/semijoin/semijoin/jpql/UseKeepsUnmatchedRowsPinLaw", "useAt", "(I)Lcom/example/semijoin/semijoin/jpql/Block$Use;"⟩ : MethodName)) hown (mvT hZ (hw _ (List.mem_of_getElem? (i := 1) rfl))) (mvT hZ (hw _ (List.mem_of_getElem? (i := 2) rfl))) (mvT hZ (hw _ (List.mem_of_getElem? (i := 3) rfl))) (mvT hZ (hw _ (List.mem_of_getElem? (i := 4) rfl))) (by decide) (backOf (W := 0) (rm1 l Z a0 hw [] (5 : Int32) u0 u1 u2 u3 u4 u5 u5 h0 n0 Z0 S0 S1 S2 S3 S4 S5 (by simp [own_sel])) hZ (hw _ (List.mem_of_getElem? (i := 4) rfl)) (hw _ (List.mem_of_getElem? (i := 3) rfl)) (by decide) (by decide)) (g := (mkF m 9 #[.val (.int p0), .val (.int (5 : Int32)), .unset, .unset] [(.int (5 : Int32))])) rfl (by rw [hml]; rfl) (argsL := [(.int (5 : Int32))]) (rest := []) (lenOf pd_0 rfl) rfl (by show 2 * 0 + _ ≤ _; exact Nat.le_of_eq rfl) (hb hby at_9) (fun _ _ => ⟨rfl, e1, (by decide : 0 + 0 ≤ _), (by decide : 0 + 0 ≤ _)⟩)
    dsimp only [Pt.U, Pt.locs, Pt.cells, Pt.slots] at X143 l143 y143 z143 st143 hQ143
    subst l143 y143 z143
    obtain ⟨rfl, Nq143, hh143⟩ := hQ143
    have N143 := Fr.app N1 Nq143
    have e143 : T143.heap = h0 := hh143
    obtain ⟨T144, h144, k144, X144, e144, E144, A144, st144⟩ := newP X143 hx hZ (hw _ (List.mem_of_getElem? (i := 8) rfl)) e143 (g := (mkF m 15 #[.val (.int p0), .val (.int (5 : Int32)), .val (.ref u5), .unset] [(.int (6 : Int32))])) rfl (hb hby at_15) rfl (by decide) (cap := 6) (by decide) (by decide) (by decide) (by decide)
    obtain ⟨b144, g144⟩ : ∃ z, z = h0.size := ⟨_, rfl⟩
    rw [← g144] at A144 st144
    have g_b144 : n0 ≤ b144 := Nat.le_trans Z0 (Nat.le_of_eq g144.symm)
    have Z145 : n0 ≤ h144.size := Nat.le_trans Z0 E144.1
    have V144 : Arv Z h144 b144 k144 .boolean (6 : Int32) [(.int (0 : Int32)), (.int (0 : Int32)), (.int (0 : Int32)), (.int (0 : Int32)), (.int (0 : Int32)), (.int (0 : Int32))] (.int (0 : Int32)) := (Arv.new A144 (by decide)).pad (pad_rep [] (.int (0 : Int32)) 6)
    obtain ⟨cl146, Ar146, q146, Sz146, Nz146, Hs146, Gs146⟩ := V144
    have hin146 : ¬ ((0 : Int32) < 0 ∨ cl146.slots.size ≤ ((0 : Int32)).toNatClampNeg) := inb_of Sz146 ⟨by decide, by decide⟩
    obtain ⟨T147, h147, X147, e147, W147, st147⟩ := stZ X144 hx hZ e144 Ar146 (j := (0 : Int32)) hin146 (g := (mkF m 20 #[.val (.int p0), .val (.int (5 : Int32)), .val (.ref u5), .unset] [(.int (0 : Int32)), (.int (0 : Int32)), (.ref b144), (.ref b144)])) rfl rfl (hb hby at_20)
    have V147 : Arv Z h147 b144 k144 .boolean (6 : Int32) [(.int (nar .boolean (0 : Int32))), (.int (0 : Int32)), (.int (0 : Int32)), (.int (0 : Int32)), (.int (0 : Int32)), (.int (0 : Int32))] (.int (0 : Int32)) := Arv.set Ar146 q146 Sz146 Nz146 Hs146 Gs146 (fits_nar_bool _) W147 0 rfl (Nat.le_of_ble_eq_true rfl)
    have Z148 : n0 ≤ h147.size := Nat.le_trans Z145 (Keep.of_wr W147).1
    have N147 := Fr.snoc X147 N143 g_b144
    obtain ⟨cl149, Ar149, q149, Sz149, Nz149, Hs149, Gs149⟩ := V147
    have hin149 : ¬ ((1 : Int32) < 0 ∨ cl149.slots.size ≤ ((1 : Int32)).toNatClampNeg) := inb_of Sz149 ⟨by decide, by decide⟩
    obtain ⟨T150, h150, X150, e150, W150, st150⟩ := stZ X147 hx hZ e147 Ar149 (j := (1 : Int32)) hin149 (g := (mkF m 24 #[.val (.int p0), .val (.int (5 : Int32)), .val (.ref u5), .unset] [(.int (0 : Int32)), (.int (1 : Int32)), (.ref b144), (.ref b144)])) rfl rfl (hb hby at_24)
    have V150 : Arv Z h150 b144 k144 .boolean (6 : Int32) [(.int (nar .boolean (0 : Int32))), (.int (nar .boolean (0 : Int32))), (.int (0 : Int32)), (.int (0 : Int32)), (.int (0 : Int32)), (.int (0 : Int32))] (.int (0 : Int32)) := Arv.set Ar149 q149 Sz149 Nz149 Hs149 Gs149 (fits_nar_bool _) W150 1 rfl (Nat.le_of_ble_eq_true rfl)
    have Z151 : n0 ≤ h150.size := Nat.le_trans Z148 (Keep.of_wr W150).1
    have N150 := Fr.snoc X150 N147 g_b144
    obtain ⟨cl152, Ar152, q152, Sz152, Nz152, Hs152, Gs152⟩ := V150
    have hin152 : ¬ ((2 : Int32) < 0 ∨ cl152.slots.size ≤ ((2 : Int32)).toNatClampNeg) := inb_of Sz152 ⟨by decide, by decide⟩
    obtain ⟨T153, h153, X153, e153, W153, st153⟩ := stZ X150 hx hZ e150 Ar152 (j := (2 : Int32)) hin152 (g := (mkF m 28 #[.val (.int p0), .val (.int (5 : Int32)), .val (.ref u5), .unset] [(.int (0 : Int32)), (.int (2 : Int32)), (.ref b144), (.ref b144)])) rfl rfl (hb hby at_28)
    have V153 : Arv Z h153 b144 k144 .boolean (6 : Int32) [(.int (nar .boolean (0 : Int32))), (.int (nar .boolean (0 : Int32))), (.int (nar .boolean (0 : Int32))), (.int (0 : Int32)), (.int (0 : Int32)), (.int (0 : Int32))] (.int (0 : Int32)) := Arv.set Ar152 q152 Sz152 Nz152 Hs152 Gs152 (fits_nar_bool _) W153 2 rfl (Nat.le_of_ble_eq_true rfl)
    have Z154 : n0 ≤ h153.size := Nat.le_trans Z151 (Keep.of_wr W153).1
    have N153 := Fr.snoc X153 N150 g_b144
    obtain ⟨cl155, Ar155, q155, Sz155, Nz155, Hs155, Gs155⟩ := V153
    have hin155 : ¬ ((3 : Int32) < 0 ∨ cl155.slots.size ≤ ((3 : Int32)).toNatClampNeg) := inb_of Sz155 ⟨by decide, by decide⟩
    obtain ⟨T156, h156, X156, e156, W156, st156⟩ := stZ X153 hx hZ e153 Ar155 (j := (3 : Int32)) hin155 (g := (mkF m 32 #[.val (.int p0), .val (.int (5 : Int32)), .val (.ref u5), .unset] [(.int (1 : Int32)), (.int (3 : Int32)), (.ref b144), (.ref b144)])) rfl rfl (hb hby at_32)
    have V156 : Arv Z h156 b144 k144 .boolean (6 : Int32) [(.int (nar .boolean (0 : Int32))), (.int (nar .boolean (0 : Int32))), (.int (nar .boolean (0 : Int32))), (.int (nar .boolean (1 : Int32))), (.int (0 : Int32)), (.int (0 : Int32))] (.int (0 : Int32)) := Arv.set Ar155 q155 Sz155 Nz155 Hs155 Gs155 (fits_nar_bool _) W156 3 rfl (Nat.le_of_ble_eq_true rfl)
    have Z157 : n0 ≤ h156.size := Nat.le_trans Z154 (Keep.of_wr W156).1
    have N156 := Fr.snoc X156 N153 g_b144
    obtain ⟨cl158, Ar158, q158, Sz158, Nz158, Hs158, Gs158⟩ := V156
    have hin158 : ¬ ((4 : Int32) < 0 ∨ cl158.slots.size ≤ ((4 : Int32)).toNatClampNeg) := inb_of Sz158 ⟨by decide, by decide⟩
    obtain ⟨T159, h159, X159, e159, W159, st159⟩ := stZ X156 hx hZ e156 Ar158 (j := (4 : Int32)) hin158 (g := (mkF m 36 #[.val (.int p0), .val (.int (5 : Int32)), .val (.ref u5), .unset] [(.int (1 : Int32)), (.int (4 : Int32)), (.ref b144), (.ref b144)])) rfl rfl (hb hby at_36)
    have V159 : Arv Z h159 b144 k144 .boolean (6 : Int32) [(.int (nar .boolean (0 : Int32))), (.int (nar .boolean (0 : Int32))), (.int (nar .boolean (0 : Int32))), (.int (nar .boolean (1 : Int32))), (.int (nar .boolean (1 : Int32))), (.int (0 : Int32))] (.int (0 : Int32)) := Arv.set Ar158 q158 Sz158 Nz158 Hs158 Gs158 (fits_nar_bool _) W159 4 rfl (Nat.le_of_ble_eq_true rfl)
    have Z160 : n0 ≤ h159.size := Nat.le_trans Z157 (Keep.of_wr W159).1
    have N159 := Fr.snoc X159 N156 g_b144
    obtain ⟨cl161, Ar161, q161, Sz161, Nz161, Hs161, Gs161⟩ := V159
    have hin161 : ¬ ((5 : Int32) < 0 ∨ cl161.slots.size ≤ ((5 : Int32)).toNatClampNeg) := inb_of Sz161 ⟨by decide, by decide⟩
    obtain ⟨T162, h162, X162, e162, W162, st162⟩ := stZ X159 hx hZ e159 Ar161 (j := (5 : Int32)) hin161 (g := (mkF m 40 #[.val (.int p0), .val (.int (5 : Int32)), .val (.ref u5), .unset] [(.int (1 : Int32)), (.int (5 : Int32)), (.ref b144), (.ref b144)])) rfl rfl (hb hby at_40)
    have V162 : Arv Z h162 b144 k144 .boolean (6 : Int32) [(.int (nar .boolean (0 : Int32))), (.int (nar .boolean (0 : Int32))), (.int (nar .boolean (0 : Int32))), (.int (nar .boolean (1 : Int32))), (.int (nar .boolean (1 : Int32))), (.int (nar .boolean (1 : Int32)))] (.int (0 : Int32)) := Arv.set Ar161 q161 Sz161 Nz161 Hs161 Gs161 (fits_nar_bool _) W162 5 rfl (Nat.le_of_ble_eq_true rfl)
    have Z163 : n0 ≤ h162.size := Nat.le_trans Z160 (Keep.of_wr W162).1
    have N162 := Fr.snoc X162 N159 g_b144
    have c164 : Sta Z h162 "com/example/semijoin/semijoin/jpql/Block$Use" "NOT_EXISTS" "Lcom/example/semijoin/semijoin/jpql/Block$Use;" (.ref u3) := (((((((S3.ext E144).wr W147).wr W150).wr W153).wr W156).wr W159).wr W162)
    have c165 : Sta Z h162 "com/example/semijoin/semijoin/jpql/Block$Use" "EXCLUDED" "Lcom/example/semijoin/semijoin/jpql/Block$Use;" (.ref u4) := (((((((S4.ext E144).wr W147).wr W150).wr W153).wr W156).wr W159).wr W162)
    have c166 : Sta Z h162 "com/example/semijoin/semijoin/jpql/Block$Use" "SCALAR" "Lcom/example/semijoin/semijoin/jpql/Block$Use;" (.ref u5) := (((((((S5.ext E144).wr W147).wr W150).wr W153).wr W156).wr W159).wr W162)
    have c168 : Exa Z h162 u5 "com/example/semijoin/semijoin/jpql/Block$Use" := (((((((E5.ext E144).wr W147).wr W150).wr W153).wr W156).wr W159).wr W162)
    obtain ⟨cq167, kq167, q167a, q167b, q167c⟩ := isOf hZ e162 c168
    obtain ⟨_, _, ⟨T167, L167, k167, n167⟩, -, X167, ⟨Lc167, hQ167, l167, y167, z167⟩, st167⟩ := X162.virtualBack hx (y := (⟨"com/example/semijoin/semijoin/jpql/Block$Use", "keepsUnmatchedRows", "()Z"⟩ : MethodName)) (z := (⟨"com/example/semijoin/semijoin/jpql/Block$Use", "keepsUnmatchedRows", "()Z"⟩ : MethodName)) hown (mvT hZ (hw _ (List.mem_of_getElem? (i := 9) rfl))) (mvT hZ (hw _ (List.mem_of_getElem? (i := 10) rfl))) (notFace_of_selects (args := #[]) (mvT hZ (hw _ (List.mem_of_getElem? (i := 12) rfl)))) (mvT hZ (hw _ (List.mem_of_getElem? (i := 12) rfl))) (mvT hZ (hw _ (List.mem_of_getElem? (i := 11) rfl))) (by decide) (backOf (W := 0) (rm2 l Z a0 hw [] u5 u3 u4 u5 (1 : Int32) h162 n0 Z163 c164 c165 c166 (if_pos (Or.inr (Or.inr rfl)))) hZ (hw _ (List.mem_of_getElem? (i := 13) rfl)) (hw _ (List.mem_of_getElem? (i := 6) rfl)) (by decide) (by decide)) q167a q167c (g := (mkF m 43 #[.val (.int p0), .val (.int (5 : Int32)), .val (.ref u5), .val (.ref b144)] [(.ref u5)])) rfl (by rw [hml]; rfl) (Steps.refl _) (argsL := []) (rest := []) (lenOf pd_1 rfl) rfl (by show 2 * 0 + _ ≤ _; exact Nat.le_of_eq rfl) (hb hby at_43) (fun _ _ => ⟨rfl, e162, (by decide : 1 + 0 ≤ _), (by decide : 6 + 0 ≤ _)⟩)
    dsimp only [Pt.U, Pt.locs, Pt.cells, Pt.slots] at X167 l167 y167 z167 st167 hQ167
    subst l167 y167 z167
    obtain ⟨rfl, Nq167, hh167⟩ := hQ167
    have N167 := Fr.app N162 Nq167
    have e167 : T167.heap = h162 := hh167
    obtain ⟨cl169, Ar169, -, Sz169, Nz169, Hs169, Gs169⟩ := V162
    have hin169 : ¬ ((5 : Int32) < 0 ∨ cl169.slots.size ≤ ((5 : Int32)).toNatClampNeg) := inb_of Sz169 ⟨by decide, by decide⟩
    have hat169 : cl169.slots[((5 : Int32)).toNatClampNeg]? = some (.int (1 : Int32)) := Hs169.at hin169 rfl
    have pre170 : ∀ t, Steps p.tables e below (T167.setTop (mkF m 57 #[.val (.int p0), .val (.int (5 : Int32)), .val (.ref u5), .val (.ref b144)] [(.int (1 : Int32))])) t → Steps p.tables e below (s₁.setTop (entryFrame m #[(.int p0)] maxLocals)) t := fun t k => by
      refine pre1 t ?_
      show Steps p.tables e below (T1.setTop (mkF m 7 #[.val (.int p0), .unset, .unset, .unset] [(.int (5 : Int32))])) _
      refine XS.istoreN X1.here hx rfl (hb hby at_7) rfl (l' := #[.val (.int p0), .val (.int (5 : Int32)), .unset, .unset]) rfl ?_
      show Steps p.tables e below (T1.setTop (mkF m 8 #[.val (.int p0), .val (.int (5 : Int32)), .unset, .unset] [])) _
      refine XS.iloadN X1.here hx rfl (hb hby at_8) rfl ?_
      show Steps p.tables e below (T1.setTop (mkF m 9 #[.val (.int p0), .val (.int (5 : Int32)), .unset, .unset] [(.int (5 : Int32))])) _
      refine st143 _ ?_
      show Steps p.tables e below (T143.setTop (mkF m 12 #[.val (.int p0), .val (.int (5 : Int32)), .unset, .unset] [(.ref u5)])) _
      refine XS.astoreN X143.here hx rfl (hb hby at_12) rfl rfl (l' := #[.val (.int p0), .val (.int (5 : Int32)), .val (.ref u5), .unset]) rfl ?_
      show Steps p.tables e below (T143.setTop (mkF m 13 #[.val (.int p0), .val (.int (5 : Int32)), .val (.ref u5), .unset] [])) _
      refine XS.bipush X143.here hx rfl (hb hby at_13) ?_
      show Steps p.tables e below (T143.setTop (mkF m 15 #[.val (.int p0), .val (.int (5 : Int32)), .val (.ref u5), .unset] [(.int (6 : Int32))])) _
      refine st144 _ ?_
      show Steps p.tables e below (T144.setTop (mkF m 17 #[.val (.int p0), .val (.int (5 : Int32)), .val (.ref u5), .unset] [(.ref b144)])) _
      refine XS.dup X144.here hx rfl (hb hby at_17) rfl rfl ?_
      show Steps p.tables e below (T144.setTop (mkF m 18 #[.val (.int p0), .val (.int (5 : Int32)), .val (.ref u5), .unset] [(.ref b144), (.ref b144)])) _
      refine XS.iconst X144.here hx rfl (hb hby at_18) ?_
      show Steps p.tables e below (T144.setTop (mkF m 19 #[.val (.int p0), .val (.int (5 : Int32)), .val (.ref u5), .unset] [(.int (0 : Int32)), (.ref b144), (.ref b144)])) _
      refine XS.iconst X144.here hx rfl (hb hby at_19) ?_
      show Steps p.tables e below (T144.setTop (mkF m 20 #[.val (.int p0), .val (.int (5 : Int32)), .val (.ref u5), .unset] [(.int (0 : Int32)), (.int (0 : Int32)), (.ref b144), (.ref b144)])) _
      refine st147 _ ?_
      show Steps p.tables e below (T147.setTop (mkF m 21 #[.val (.int p0), .val (.int (5 : Int32)), .val (.ref u5), .unset] [(.ref b144)])) _
      refine XS.dup X147.here hx rfl (hb hby at_21) rfl rfl ?_
      show Steps p.tables e below (T147.setTop (mkF m 22 #[.val (.int p0), .val (.int (5 : Int32)), .val (.ref u5), .unset] [(.ref b144), (.ref b144)])) _
      refine XS.iconst X147.here hx rfl (hb hby at_22) ?_
      show Steps p.tables e below (T147.setTop (mkF m 23 #[.val (.int p0), .val (.int (5 : Int32)), .val (.ref u5), .unset] [(.int (1 : Int32)), (.ref b144), (.ref b144)])) _
      refine XS.iconst X147.here hx rfl (hb hby at_23) ?_
      show Steps p.tables e below (T147.setTop (mkF m 24 #[.val (.int p0), .val (.int (5 : Int32)), .val (.ref u5), .unset] [(.int (0 : Int32)), (.int (1 : Int32)), (.ref b144), (.ref b144)])) _
      refine st150 _ ?_
      show Steps p.tables e below (T150.setTop (mkF m 25 #[.val (.int p0), .val (.int (5 : Int32)), .val (.ref u5), .unset] [(.ref b144)])) _
      refine XS.dup X150.here hx rfl (hb hby at_25) rfl rfl ?_
      show Steps p.tables e below (T150.setTop (mkF m 26 #[.val (.int p0), .val (.int (5 : Int32)), .val (.ref u5), .unset] [(.ref b144), (.ref b144)])) _
      refine XS.iconst X150.here hx rfl (hb hby at_26) ?_
      show Steps p.tables e below (T150.setTop (mkF m 27 #[.val (.int p0), .val (.int (5 : Int32)), .val (.ref u5), .unset] [(.int (2 : Int32)), (.ref b144), (.ref b144)])) _
      refine XS.iconst X150.here hx rfl (hb hby at_27) ?_
      show Steps p.tables e below (T150.setTop (mkF m 28 #[.val (.int p0), .val (.int (5 : Int32)), .val (.ref u5), .unset] [(.int (0 : Int32)), (.int (2 : Int32)), (.ref b144), (.ref b144)])) _
      refine st153 _ ?_
      show Steps p.tables e below (T153.setTop (mkF m 29 #[.val (.int p0), .val (.int (5 : Int32)), .val (.ref u5), .unset] [(.ref b144)])) _
      refine XS.dup X153.here hx rfl (hb hby at_29) rfl rfl ?_
      show Steps p.tables e below (T153.setTop (mkF m 30 #[.val (.int p0), .val (.int (5 : Int32)), .val (.ref u5), .unset] [(.ref b144), (.ref b144)])) _
      refine XS.iconst X153.here hx rfl (hb hby at_30) ?_
      show Steps p.tables e below (T153.setTop (mkF m 31 #[.val (.int p0), .val (.int (5 : Int32)), .val (.ref u5), .unset] [(.int (3 : Int32)), (.ref b144), (.ref b144)])) _
      refine XS.iconst X153.here hx rfl (hb hby at_31) ?_
      show Steps p.tables e below (T153.setTop (mkF m 32 #[.val (.int p0), .val (.int (5 : Int32)), .val (.ref u5), .unset] [(.int (1 : Int32)), (.int (3 : Int32)), (.ref b144), (.ref b144)])) _
      refine st156 _ ?_
      show Steps p.tables e below (T156.setTop (mkF m 33 #[.val (.int p0), .val (.int (5 : Int32)), .val (.ref u5), .unset] [(.ref b144)])) _
      refine XS.dup X156.here hx rfl (hb hby at_33) rfl rfl ?_
      show Steps p.tables e below (T156.setTop (mkF m 34 #[.val (.int p0), .val (.int (5 : Int32)), .val (.ref u5), .unset] [(.ref b144), (.ref b144)])) _
      refine XS.iconst X156.here hx rfl (hb hby at_34) ?_
      show Steps p.tables e below (T156.setTop (mkF m 35 #[.val (.int p0), .val (.int (5 : Int32)), .val (.ref u5), .unset] [(.int (4 : Int32)), (.ref b144), (.ref b144)])) _
      refine XS.iconst X156.here hx rfl (hb hby at_35) ?_
      show Steps p.tables e below (T156.setTop (mkF m 36 #[.val (.int p0), .val (.int (5 : Int32)), .val (.ref u5), .unset] [(.int (1 : Int32)), (.int (4 : Int32)), (.ref b144), (.ref b144)])) _
      refine st159 _ ?_
      show Steps p.tables e below (T159.setTop (mkF m 37 #[.val (.int p0), .val (.int (5 : Int32)), .val (.ref u5), .unset] [(.ref b144)])) _
      refine XS.dup X159.here hx rfl (hb hby at_37) rfl rfl ?_
      show Steps p.tables e below (T159.setTop (mkF m 38 #[.val (.int p0), .val (.int (5 : Int32)), .val (.ref u5), .unset] [(.ref b144), (.ref b144)])) _
      refine XS.iconst X159.here hx rfl (hb hby at_38) ?_
      show Steps p.tables e below (T159.setTop (mkF m 39 #[.val (.int p0), .val (.int (5 : Int32)), .val (.ref u5), .unset] [(.int (5 : Int32)), (.ref b144), (.ref b144)])) _
      refine XS.iconst X159.here hx rfl (hb hby at_39) ?_
      show Steps p.tables e below (T159.setTop (mkF m 40 #[.val (.int p0), .val (.int (5 : Int32)), .val (.ref u5), .unset] [(.int (1 : Int32)), (.int (5 : Int32)), (.ref b144), (.ref b144)])) _
      refine st162 _ ?_
      show Steps p.tables e below (T162.setTop (mkF m 41 #[.val (.int p0), .val (.int (5 : Int32)), .val (.ref u5), .unset] [(.ref b144)])) _
      refine XS.astoreN X162.here hx rfl (hb hby at_41) rfl rfl (l' := #[.val (.int p0), .val (.int (5 : Int32)), .val (.ref u5), .val (.ref b144)]) rfl ?_
      show Steps p.tables e below (T162.setTop (mkF m 42 #[.val (.int p0), .val (.int (5 : Int32)), .val (.ref u5), .val (.ref b144)] [])) _
      refine XS.aloadN X162.here hx rfl (hb hby at_42) rfl rfl ?_
      show Steps p.tables e below (T162.setTop (mkF m 43 #[.val (.int p0), .val (.int (5 : Int32)), .val (.ref u5), .val (.ref b144)] [(.ref u5)])) _
      refine st167.trans ?_
      show Steps p.tables e below (T167.setTop (mkF m 46 #[.val (.int p0), .val (.int (5 : Int32)), .val (.ref u5), .val (.ref b144)] [(.int (1 : Int32))])) _
      refine XS.aloadN X167.here hx rfl (hb hby at_46) rfl rfl ?_
      show Steps p.tables e below (T167.setTop (mkF m 47 #[.val (.int p0), .val (.int (5 : Int32)), .val (.ref u5), .val (.ref b144)] [(.ref b144), (.int (1 : Int32))])) _
      refine XS.iloadN X167.here hx rfl (hb hby at_47) rfl ?_
      show Steps p.tables e below (T167.setTop (mkF m 48 #[.val (.int p0), .val (.int (5 : Int32)), .val (.ref u5), .val (.ref b144)] [(.int (5 : Int32)), (.ref b144), (.int (1 : Int32))])) _
      refine X167.baloadBooleans hx (j := (5 : Int32)) (v := (.int (1 : Int32))) (by rw [e167]; exact Ar169.1) (State.isArrayOf_alike hZ.alike Ar169.2.1) Ar169.2.2 hin169 hat169 (g := (mkF m 48 #[.val (.int p0), .val (.int (5 : Int32)), .val (.ref u5), .val (.ref b144)] [(.int (5 : Int32)), (.ref b144), (.int (1 : Int32))])) rfl rfl (hb hby at_48) _ ?_
      show Steps p.tables e below (T167.setTop (mkF m 49 #[.val (.int p0), .val (.int (5 : Int32)), .val (.ref u5), .val (.ref b144)] [(.int (1 : Int32)), (.int (1 : Int32))])) _
      refine XS.icmpNo X167.here hx rfl (hb hby at_49) rfl (teq (by decide : (1 : Int32) = (1 : Int32))).2 ?_
      show Steps p.tables e below (T167.setTop (mkF m 52 #[.val (.int p0), .val (.int (5 : Int32)), .val (.ref u5), .val (.ref b144)] [])) _
      refine XS.iconst X167.here hx rfl (hb hby at_52) ?_
      show Steps p.tables e below (T167.setTop (mkF m 53 #[.val (.int p0), .val (.int (5 : Int32)), .val (.ref u5), .val (.ref b144)] [(.int (1 : Int32))])) _
      refine XS.goto X167.here hx rfl (pc0 := 53) (pc' := 57) rfl (hb hby at_53) (by decide) (by decide) ?_
      exact k
    obtain ⟨fs, hrq, hrun, hended, hW, hsame⟩ := X167.leave (v := some (.int (1 : Int32))) (fun h => by rw [Bd.returns] at h; cases h)
    refine ⟨_, _, pre170 _ ?_, hrun, hended, _, _, rfl, ?_, ⟨_, rfl⟩, hW, hsame.mono (by decide) (by decide)⟩
    · show Steps p.tables e below (T167.setTop (mkF m 57 #[.val (.int p0), .val (.int (5 : Int32)), .val (.ref u5), .val (.ref b144)] [(.int (1 : Int32))])) _
      exact retN X167 hx (t := .boolean) Bd.returns (by simp) (hb hby at_57) hrq
    · show Q0 Z p0 u0 u1 u2 u3 u4 u5 h0 n0 _ T167.heap _
      rw [e167]
      exact ⟨rfl, N167⟩
set_option maxRecDepth 65536 in
set_option maxHeartbeats 40000000 in
theorem comes_1 {Post : Tables → Env → Array Value → State → Outcome → State → Prop} (hpost : ∀ tb e args s v u, (limb_1_1.after args s (.returned v) u = true ∧ limb_1_2.after args s (.returned v) u = true ∧ True) → FrameEnd s (.returned v) u (Jvm.fieldLocs frame_1_writes args s ++ Jvm.arrayLocs frame_1_arrays args s ++ Jvm.staticLocs frame_1_statics s) 16 128 → Post tb e args s (.returned v) u) :
    ArmFor flags0 classFile x code maxLocals ret World_1 tables_1 room_1 Calls_1 rest_1 Pre_1 Post := by
  intro l hfl _ _ p e ha hc hk s m args below hf hA hF happ hP
  obtain ⟨hcalls, hrest, hpre⟩ := hP
  obtain ⟨-, -, -, hnamed, -, -, -, hat⟩ := (Spec.applies_iff hf).mp happ
  obtain ⟨hg, hn⟩ := and_e (Cond.before_iff.mp (show (Jvm.Cond.and given_1 narrow_1).before args s = true from hpre))
  obtain ⟨gc, g0⟩ := and_e hg
  have ga0 := g0
  obtain ⟨w0, rfl⟩ : ∃ w0 : Value, args = #[w0] := by
    have hs : args.size = 1 := by simpa [Cond.value, given_1] using gc
    obtain ⟨L⟩ := args
    match L, hs with
    | [w0], _ => exact ⟨w0, rfl⟩
  have hw := fun d (hd : d ∈ tables_1) => atoms_spec (ws := Jvm.Cond.code x code maxLocals ret :: tables_1) hat d (List.mem_cons_of_mem _ hd)
  have hfit : Fit s := fun {y c} hc i hi => by
    obtain ⟨ha, rfl⟩ := Array.getElem?_eq_some_iff.mp hc
    have q := List.all_eq_true.mp ((Array.all_eq_true_iff_forall_mem.mp hF) _ (Array.getElem_mem ha)) i (List.mem_range.mpr hi)
    simpa [Array.getElem?_eq_getElem hi] using q
  obtain ⟨i0, ei0⟩ := is_v ga0
  obtain rfl : w0 = (.int i0) := Option.some.inj ei0
  obtain ⟨hx0, hn0⟩ := and_e hn
  obtain ⟨hx3, hn1⟩ := and_e hn0
  obtain ⟨ho0, hn2⟩ := and_e hn1
  obtain ⟨ho3, hn3⟩ := and_e hn2
  obtain ⟨hx4, hn4⟩ := and_e hn3
  obtain ⟨ho4, hn5⟩ := and_e hn4
  obtain ⟨hx5, hn6⟩ := and_e hn5
  obtain ⟨ho5, hn7⟩ := and_e hn6
  obtain ⟨hx2, hn8⟩ := and_e hn7
  obtain ⟨ho2, hn9⟩ := and_e hn8
  obtain ⟨hx1, hn10⟩ := and_e hn9
  have ho1 := hn10
  obtain ⟨u0, eu0⟩ := exa_v hx0
  have S0 := Sta.start eu0 (Or.inr ⟨(hw _ (List.mem_of_getElem? (i := 6) rfl)), (hw _ (List.mem_of_getElem? (i := 7) rfl))⟩)
  have E0 := Exa.start eu0 hx0
  have O0 := own_ord eu0 ho0
  obtain ⟨u1, eu1⟩ := exa_v hx1
  have S1 := Sta.start eu1 (Or.inr ⟨(hw _ (List.mem_of_getElem? (i := 6) rfl)), (hw _ (List.mem_of_getElem? (i := 24) rfl))⟩)
  have E1 := Exa.start eu1 hx1
  have O1 := own_ord eu1 ho1
  obtain ⟨u2, eu2⟩ := exa_v hx2
  have S2 := Sta.start eu2 (Or.inr ⟨(hw _ (List.mem_of_getElem? (i := 6) rfl)), (hw _ (List.mem_of_getElem? (i := 22) rfl))⟩)
  have E2 := Exa.start eu2 hx2
  have O2 := own_ord eu2 ho2
  obtain ⟨u3, eu3⟩ := exa_v hx3
  have S3 := Sta.start eu3 (Or.inr ⟨(hw _ (List.mem_of_getElem? (i := 6) rfl)), (hw _ (List.mem_of_getElem? (i := 15) rfl))⟩)
  have E3 := Exa.start eu3 hx3
  have O3 := own_ord eu3 ho3
  obtain ⟨u4, eu4⟩ := exa_v hx4
  have S4 := Sta.start eu4 (Or.inr ⟨(hw _ (List.mem_of_getElem? (i := 6) rfl)), (hw _ (List.mem_of_getElem? (i := 17) rfl))⟩)
  have E4 := Exa.start eu4 hx4
  have O4 := own_ord eu4 ho4
  obtain ⟨u5, eu5⟩ := exa_v hx5
  have S5 := Sta.start eu5 (Or.inr ⟨(hw _ (List.mem_of_getElem? (i := 6) rfl)), (hw _ (List.mem_of_getElem? (i := 19) rfl))⟩)
  have E5 := Exa.start eu5 hx5
  have O5 := own_ord eu5 ho5
  obtain ⟨n, o, h1, h2, h3, _, L, rfl, ⟨rfl, N⟩, hq⟩ := rm0 l s _ hw tables_1 i0 u0 u1 u2 u3 u4 u5 s.heap s.heap.size (Nat.le_refl _) S0 E0 S1 E1 S2 E2 S3 E3 S4 E4 S5 E5 (own_ne O0 O3 (by decide)) (own_ne O0 O4 (by decide)) (own_ne O0 O5 (by decide)) (own_ne O1 O3 (by decide)) (own_ne O1 O4 (by decide)) (own_ne O1 O5 (by decide)) (own_ne O2 O3 (by decide)) (own_ne O2 O4 (by decide)) (own_ne O2 O5 (by decide)) p e ha hc hk s m _ below hf ((Spec.applies_iff_loose hf).mp happ).1 ⟨rfl, State.Warmed39.refl s, rfl⟩ trivial
  refine ⟨n, _, h1, h2, h3, hpost _ _ _ _ _ _ ⟨Cond.after_iff.mpr rfl, Cond.after_iff.mpr (eq_i res_at (Term.int_eval (1)) rfl), trivial⟩ ⟨hq.1, hq.2.1, (hq.2.2.sift fun y hy => Or.inr (N y hy)).mono (by decide) (by decide)⟩⟩
theorem main_1_1 : Claimed_1_1 := comes_1 fun _ _ _ _ _ _ h hF => ⟨h.1, hF⟩
theorem main_1_2 : Claimed_1_2 := comes_1 fun _ _ _ _ _ _ h hF => ⟨h.2.1, hF⟩
end Jvm.Pilot.@@N@@
namespace Jvm.Pilot.@@N@@
open Jvm Jvm.ClassFile Sem Op Lib Jvm.Free Jvm.Stand Jvm.Pilot.@@N@@.Jvm.D
/-! MADE BY PROGRAM (witnessworld.py) out of the Statement's table words and the real class files: 12 classes; the members and pool entries that the words name. The judged class is class 1, her method 1. -/
namespace start1
open Jvm.ClassFile
def u (s : String) : CpInfo := .utf8 (stringToUtf16 s)
/-- a pool by its gaps: so many unusable entries, then the entry; so many at the end -/
def gap : Nat → List CpInfo → List CpInfo
  | 0, r => r
  | n + 1, r => .unusable :: gap n r
def poolList (es : List (Nat × CpInfo)) (last : Nat) : List CpInfo := es.foldr (fun e r => gap e.1 (e.2 :: r)) (gap last [])
def pool (es : List (Nat × CpInfo)) (last : Nat) : Array CpInfo := ⟨poolList es last⟩
def fileOf (pool : Array CpInfo) (this : Nat) (attrs : Array Attribute := #[]) (ms : Array MethodInfo := #[]) (fl : Nat := 33) (sup : Nat := 0) (ifs : Array Nat := #[]) (fds : Array FieldInfo := #[]) : ClassFile where
  minorVersion := 0
  majorVersion := 65
  constantPool := pool
  accessFlags := fl
  thisClass := this
  superClass := sup
  interfaces := ifs
  fields := fds
  methods := ms
  attributes := attrs
def plain (name : String) (sup : Option ClassId) : Class where
  name := name
  kind := .ordinary
  loader := none
  accessFlags := 33
  super := sup
  interfaces := #[]
  cf := none
  fields := #[]
  methods := #[]
  instanceTypes := #[]
  staticTypes := #[]
  resolved := #[]
  callSites := []
  init := .initialized
  statics := none
  mirror := none

def pool0 : Array CpInfo := pool [(5, u "<init>"), (0, u "()V"), (1, .class_ 10), (1, u "java/lang/Object")] 113

def k0m0 : Method := { name := "<init>", desc := "()V", sig := { parameters := [], returnType := none }, accessFlags := 1, code := none }
/-- java/lang/Object -/
def k0 : Class := { plain "java/lang/Object" none with
  accessFlags := 33
  interfaces := #[]
  cf := some (fileOf pool0 8 #[] #[{ accessFlags := 1, nameIndex := 5, descriptorIndex := 6, attributes := #[] }] 33 0 #[] #[])
  fields := #[]
  methods := #[k0m0]
  instanceTypes := #[]
  staticTypes := #[]
  resolved := Array.replicate 124 none
  statics := none }

def pool1 : Array CpInfo := pool [(2, .class_ 4), (1, u "java/lang/Object"), (0, u "<init>"), (0, u "()V"), (0, .integer 2147483647), (0, .methodref 9 10), (0, .class_ 11), (0, .nameAndType 12 13), (0, u "com/example/semijoin/semijoin/jpql/UseKeepsUnmatchedRowsPinLaw"), (0, u "useAt"), (0, u "(I)Lcom/example/semijoin/semijoin/jpql/Block$Use;"), (0, .methodref 15 16), (0, .class_ 17), (0, .nameAndType 18 19), (0, u "com/example/semijoin/semijoin/jpql/Block$Use"), (0, u "keepsUnmatchedRows"), (0, u "()Z"), (0, .fieldref 15 21), (0, .nameAndType 22 23), (0, u "QUERY"), (0, u "Lcom/example/semijoin/semijoin/jpql/Block$Use;"), (0, .fieldref 15 25), (0, .nameAndType 26 23), (0, u "VALUES"), (0, .fieldref 15 28), (0, .nameAndType 29 23), (0, u "EXISTS"), (0, .fieldref 15 31), (0, .nameAndType 32 23), (0, u "NOT_EXISTS"), (0, .fieldref 15 34), (0, .nameAndType 35 23), (0, u "EXCLUDED"), (0, .fieldref 15 37), (0, .nameAndType 38 23), (0, u "SCALAR"), (2, u "law"), (0, u "(I)Z")] 9

def k1m0 : Method := { name := "<init>", desc := "()V", sig := { parameters := [], returnType := none }, accessFlags := 2, code := none }
def k1c1 : Code := { maxStack := 4, maxLocals := 4, code := code, exceptionTable := #[], attributes := #[] }
def k1m1 : Method := { name := "law", desc := "(I)Z", sig := { parameters := [.int], returnType := some .boolean }, accessFlags := 9, code := some k1c1 }
def k1c2 : Code := { maxStack := 2, maxLocals := 1, code := method_3_code, exceptionTable := #[], attributes := #[] }
def k1m2 : Method := { name := "useAt", desc := "(I)Lcom/example/semijoin/semijoin/jpql/Block$Use;", sig := { parameters := [.int], returnType := some (.object "com/example/semijoin/semijoin/jpql/Block$Use") }, accessFlags := 10, code := some k1c2 }
/-- com/example/semijoin/semijoin/jpql/UseKeepsUnmatchedRowsPinLaw -/
def k1 : Class := { plain "com/example/semijoin/semijoin/jpql/UseKeepsUnmatchedRowsPinLaw" (some 0) with
  accessFlags := 49
  interfaces := #[]
  cf := some (fileOf pool1 9 #[] #[{ accessFlags := 2, nameIndex := 5, descriptorIndex := 6, attributes := #[] }, { accessFlags := 9, nameIndex := 41, descriptorIndex := 42, attributes := #[] }, { accessFlags := 10, nameIndex := 12, descriptorIndex := 13, attributes := #[] }] 49 2 #[] #[])
  fields := #[]
  methods := #[k1m0, k1m1, k1m2]
  instanceTypes := #[]
  staticTypes := #[]
  resolved := Array.replicate 52 none
  statics := none }

def pool2 : Array CpInfo := pool [(1, .class_ 2), (0, u "java/lang/constant/Constable"), (0, .class_ 4), (0, u "java/lang/Object")] 6

/-- java/lang/constant/Constable -/
def k2 : Class := { plain "java/lang/constant/Constable" (some 0) with
  accessFlags := 1537
  interfaces := #[]
  cf := some (fileOf pool2 1 #[] #[] 1537 3 #[] #[])
  fields := #[]
  methods := #[]
  instanceTypes := #[]
  staticTypes := #[]
  resolved := Array.replicate 11 none
  statics := none }

def pool3 : Array CpInfo := pool [(1, .class_ 2), (0, u "java/lang/Comparable"), (0, .class_ 4), (0, u "java/lang/Object")] 7

/-- java/lang/Comparable -/
def k3 : Class := { plain "java/lang/Comparable" (some 0) with
  accessFlags := 1537
  interfaces := #[]
  cf := some (fileOf pool3 1 #[] #[] 1537 3 #[] #[])
  fields := #[]
  methods := #[]
  instanceTypes := #[]
  staticTypes := #[]
  resolved := Array.replicate 12 none
  statics := none }

def pool4 : Array CpInfo := pool [(1, .class_ 2), (0, u "java/io/Serializable"), (0, .class_ 4), (0, u "java/lang/Object")] 2

/-- java/io/Serializable -/
def k4 : Class := { plain "java/io/Serializable" (some 0) with
  accessFlags := 1537
  interfaces := #[]
  cf := some (fileOf pool4 1 #[] #[] 1537 3 #[] #[])
  fields := #[]
  methods := #[]
  instanceTypes := #[]
  staticTypes := #[]
  resolved := Array.replicate 7 none
  statics := none }

def pool5 : Array CpInfo := pool [(2, .class_ 4), (1, u "java/lang/Enum"), (0, u "name"), (0, u "Ljava/lang/String;"), (2, u "ordinal"), (0, u "I"), (1, .class_ 14), (1, u "java/lang/Object"), (4, u "hash"), (86, .class_ 108), (1, u "java/lang/Enum$EnumDesc"), (2, .class_ 112), (0, u "java/lang/constant/Constable"), (0, .class_ 114), (0, u "java/lang/Comparable"), (0, .class_ 116), (0, u "java/io/Serializable")] 87

/-- java/lang/Enum -/
def k5 : Class := { plain "java/lang/Enum" (some 0) with
  accessFlags := 1057
  interfaces := #[2, 3, 4]
  cf := some (fileOf pool5 2 #[.nestMembers #[106]] #[] 1057 12 #[111, 113, 115] #[{ accessFlags := 18, nameIndex := 5, descriptorIndex := 6, attributes := #[] }, { accessFlags := 18, nameIndex := 9, descriptorIndex := 10, attributes := #[] }, { accessFlags := 2, nameIndex := 19, descriptorIndex := 10, attributes := #[] }])
  fields := #[{ name := "name", type := (.object "java/lang/String"), accessFlags := 18, slot := 0, constantValue := 0 }, { name := "ordinal", type := .int, accessFlags := 18, slot := 1, constantValue := 0 }, { name := "hash", type := .int, accessFlags := 2, slot := 2, constantValue := 0 }]
  methods := #[]
  instanceTypes := #[(.object "java/lang/String"), .int, .int]
  staticTypes := #[]
  resolved := Array.replicate 204 none
  statics := none }

def pool6 : Array CpInfo := pool [(1, .class_ 2), (0, u "com/example/semijoin/semijoin/jpql/Block$Use"), (2, u "QUERY"), (0, u "Lcom/example/semijoin/semijoin/jpql/Block$Use;"), (2, u "VALUES"), (2, u "EXISTS"), (0, .fieldref 1 14), (0, .nameAndType 15 6), (0, u "NOT_EXISTS"), (0, .fieldref 1 17), (0, .nameAndType 18 6), (0, u "EXCLUDED"), (0, .fieldref 1 20), (0, .nameAndType 21 6), (0, u "SCALAR"), (2, u "$VALUES"), (0, u "[Lcom/example/semijoin/semijoin/jpql/Block$Use;"), (6, .class_ 34), (1, u "java/lang/Enum"), (24, u "keepsUnmatchedRows"), (0, u "()Z"), (6, .class_ 68), (0, u "com/example/semijoin/semijoin/jpql/Block")] 2

def k6c0 : Code := { maxStack := 2, maxLocals := 1, code := prog_35_method_4_code, exceptionTable := #[], attributes := #[] }
def k6m0 : Method := { name := "keepsUnmatchedRows", desc := "()Z", sig := { parameters := [], returnType := some .boolean }, accessFlags := 0, code := some k6c0 }
/-- com/example/semijoin/semijoin/jpql/Block$Use -/
def k6 : Class := { plain "com/example/semijoin/semijoin/jpql/Block$Use" (some 5) with
  accessFlags := 16432
  interfaces := #[]
  cf := some (fileOf pool6 1 #[.nestHost 67] #[{ accessFlags := 0, nameIndex := 59, descriptorIndex := 60, attributes := #[] }] 16432 32 #[] #[{ accessFlags := 16409, nameIndex := 5, descriptorIndex := 6, attributes := #[] }, { accessFlags := 16409, nameIndex := 9, descriptorIndex := 6, attributes := #[] }, { accessFlags := 16409, nameIndex := 12, descriptorIndex := 6, attributes := #[] }, { accessFlags := 16409, nameIndex := 15, descriptorIndex := 6, attributes := #[] }, { accessFlags := 16409, nameIndex := 18, descriptorIndex := 6, attributes := #[] }, { accessFlags := 16409, nameIndex := 21, descriptorIndex := 6, attributes := #[] }, { accessFlags := 4122, nameIndex := 24, descriptorIndex := 25, attributes := #[] }])
  fields := #[{ name := "QUERY", type := (.object "com/example/semijoin/semijoin/jpql/Block$Use"), accessFlags := 16409, slot := 0, constantValue := 0 }, { name := "VALUES", type := (.object "com/example/semijoin/semijoin/jpql/Block$Use"), accessFlags := 16409, slot := 1, constantValue := 0 }, { name := "EXISTS", type := (.object "com/example/semijoin/semijoin/jpql/Block$Use"), accessFlags := 16409, slot := 2, constantValue := 0 }, { name := "NOT_EXISTS", type := (.object "com/example/semijoin/semijoin/jpql/Block$Use"), accessFlags := 16409, slot := 3, constantValue := 0 }, { name := "EXCLUDED", type := (.object "com/example/semijoin/semijoin/jpql/Block$Use"), accessFlags := 16409, slot := 4, constantValue := 0 }, { name := "SCALAR", type := (.object "com/example/semijoin/semijoin/jpql/Block$Use"), accessFlags := 16409, slot := 5, constantValue := 0 }, { name := "$VALUES", type := (.array (.object "com/example/semijoin/semijoin/jpql/Block$Use")), accessFlags := 4122, slot := 6, constantValue := 0 }]
  methods := #[k6m0]
  instanceTypes := #[(.object "java/lang/String"), .int, .int]
  staticTypes := #[(.object "com/example/semijoin/semijoin/jpql/Block$Use"), (.object "com/example/semijoin/semijoin/jpql/Block$Use"), (.object "com/example/semijoin/semijoin/jpql/Block$Use"), (.object "com/example/semijoin/semijoin/jpql/Block$Use"), (.object "com/example/semijoin/semijoin/jpql/Block$Use"), (.object "com/example/semijoin/semijoin/jpql/Block$Use"), (.array (.object "com/example/semijoin/semijoin/jpql/Block$Use"))]
  resolved := Array.replicate 71 none
  statics := some 0 }

def pool7 : Array CpInfo := pool [(1, u "java/lang/Cloneable"), (0, .class_ 1), (0, u "java/lang/Object"), (0, .class_ 3)] 3

/-- java/lang/Cloneable -/
def k7 : Class := { plain "java/lang/Cloneable" (some 0) with
  accessFlags := 1537
  interfaces := #[]
  cf := some (fileOf pool7 2 #[] #[] 1537 4 #[] #[])
  fields := #[]
  methods := #[]
  instanceTypes := #[]
  staticTypes := #[]
  resolved := Array.replicate 8 none
  statics := none }

/-- the primitive boolean -/
def k8 : Class := { plain "boolean" none with kind := .primitive 'Z', accessFlags := 0x411 }
/-- [Z -/
def k9 : Class := { plain "[Z" (some 0) with kind := .array 8 .boolean, interfaces := #[7, 4], accessFlags := 1041 }

/-- the primitive byte -/
def k10 : Class := { plain "byte" none with kind := .primitive 'B', accessFlags := 0x411 }
/-- [B -/
def k11 : Class := { plain "[B" (some 0) with kind := .array 10 .byte, interfaces := #[7, 4], accessFlags := 1041 }

def heap : Heap := #[{ cls := 6, slots := #[.ref 1, .ref 2, .ref 3, .ref 4, .ref 5, .ref 6, .null], vm := .statics 6 },
  { cls := 6, slots := #[.null, .int 0, .int 0], vm := .none },
  { cls := 6, slots := #[.null, .int 1, .int 0], vm := .none },
  { cls := 6, slots := #[.null, .int 2, .int 0], vm := .none },
  { cls := 6, slots := #[.null, .int 3, .int 0], vm := .none },
  { cls := 6, slots := #[.null, .int 4, .int 0], vm := .none },
  { cls := 6, slots := #[.null, .int 5, .int 0], vm := .none }]
def classes : Array Class := #[k0, k1, k2, k3, k4, k5, k6, k7, k8, k9, k10, k11]
def interned : List (Array UInt16 × Addr) := []
def slotsUsed : Nat := 25
def theMethod : MethodId := ⟨1, 1⟩
def args0 : Array Value := #[.int 3]
def aboutOver (below : List Frame) : State where
  vm := { classes := classes, interned := interned.toArray }
  heap := heap
  slotsUsed := slotsUsed
  threads := #[{ frames := .invoking theMethod args0 :: below }]
def below0 : List Frame := [.native { method := ⟨0, 0⟩, args := #[] }]
def about1 : State := aboutOver below0
def p0 : Program := .bare "" "" ""
def e0 : Env := launch0.env 0 0 0
theorem w_frames : about1.frames = Frame.invoking theMethod args0 :: below0 := rfl
set_option maxRecDepth 65536 in
theorem w_args : argsFit about1.vm theMethod args0 = true := by decide +kernel
set_option maxRecDepth 65536 in
theorem w_heap : heapFits about1 = true := by decide +kernel
set_option maxRecDepth 65536 in
theorem w_runnable : about1.curStatus? = some .runnable := by decide +kernel
set_option maxRecDepth 65536 in
theorem w_alone : about1.alone = true := by decide +kernel
set_option maxRecDepth 65536 in
theorem w_named : about1.methodNamed? x = some theMethod := by decide +kernel
set_option maxRecDepth 65536 in
theorem w_hears : about1.hears theMethod below0 = true := by decide +kernel
set_option maxRecDepth 65536 in
theorem w_ripe : about1.ripe theMethod args0 below0 = true := by decide +kernel
theorem w_running : about1.status = .running := rfl
set_option maxRecDepth 65536 in
theorem w_room : about1.hasRoom e0.platform room_1 = true :=
  launch0.hasRoom_least _ room_1 (by decide +kernel) (by decide +kernel) (by decide +kernel) (by decide +kernel) (by decide +kernel) (by decide +kernel)
theorem allAtoms_all (ts : List Jvm.Cond) (a : Array Jvm.Value) (st : Jvm.State) : (allAtoms ts).before a st = ts.all (fun c => c.before a st) := by
  induction ts with
  | nil => rfl
  | cons c t ih =>
    show (Jvm.Cond.and c (allAtoms t)).before a st = _
    rw [Jvm.Cond.before_and, ih, List.all_cons]
def words1 : List Jvm.Cond := Jvm.Cond.code x code maxLocals ret :: tables_1
/-- a 'code' word, met by the world's own term for the bytes: nothing is compared byte by byte -/
theorem code_word {y : MethodName} {bytes : ByteArray} {mx : Nat} {rt : Option FieldType} {a : Array Value} {s : State} {m : MethodId} {meth : Method} {c : Code} (h1 : s.methodNamed? y = some m) (h2 : s.vm.method? m = some meth) (h3 : meth.code = some c) (h4 : c.code = bytes)
    (h5 : (c.maxLocals == mx && c.exceptionTable.isEmpty && decide (c.maxStack ≤ mostOperands) && decide (meth.sig.returnType = rt) && !meth.locks && decide (parseMethodDescriptor y.desc = some meth.sig)) = true) : (Jvm.Cond.code y bytes mx rt).before a s = true := by
  simp only [Bool.and_eq_true, beq_iff_eq, Bool.not_eq_true', decide_eq_true_eq] at h5
  obtain ⟨⟨⟨⟨⟨g1, g2⟩, g3⟩, g4⟩, g5⟩, g6⟩ := h5
  simp [Cond.before, Cond.holds, Cond.value, h1, h2, h3, h4, g1, g2, g3, g4, g5, g6]
def isCode : Jvm.Cond → Bool
  | .code _ _ _ _ => true
  | _ => false
theorem all_split {L : List Jvm.Cond} {P : Jvm.Cond → Bool} (h1 : L.all (fun c => isCode c || P c) = true) (h2 : ∀ c ∈ L.filter isCode, P c = true) : L.all P = true := by
  refine List.all_eq_true.mpr fun c hc => ?_
  have h := List.all_eq_true.mp h1 c hc
  rcases Bool.eq_false_or_eq_true (isCode c) with hi | hi
  · exact h2 c (List.mem_filter.mpr ⟨hc, hi⟩)
  · simpa [hi] using h
set_option maxRecDepth 65536 in
theorem w_c0 : (Jvm.Cond.code x code maxLocals ret).before args0 about1 = true := code_word (m := ⟨1, 1⟩) (meth := k1m1) (c := k1c1) (by decide +kernel) rfl rfl rfl (by decide +kernel)
set_option maxRecDepth 65536 in
theorem w_c1 : (Jvm.Cond.code ({ cls := "com/example/semijoin/semijoin/jpql/UseKeepsUnmatchedRowsPinLaw", name := "useAt", desc := "(I)Lcom/example/semijoin/semijoin/jpql/Block$Use;" } : Jvm.MethodName) method_3_code (1 : Nat) (Option.some (Jvm.ClassFile.FieldType.object "com/example/semijoin/semijoin/jpql/Block$Use"))).before args0 about1 = true := code_word (m := ⟨1, 2⟩) (meth := k1m2) (c := k1c2) (by decide +kernel) rfl rfl rfl (by decide +kernel)
set_option maxRecDepth 65536 in
theorem w_c2 : (Jvm.Cond.code ({ cls := "com/example/semijoin/semijoin/jpql/Block$Use", name := "keepsUnmatchedRows", desc := "()Z" } : Jvm.MethodName) prog_35_method_4_code (1 : Nat) (Option.some Jvm.ClassFile.FieldType.boolean)).before args0 about1 = true := code_word (m := ⟨6, 0⟩) (meth := k6m0) (c := k6c0) (by decide +kernel) rfl rfl rfl (by decide +kernel)
def codes1 : List Jvm.Cond := [Jvm.Cond.code x code maxLocals ret, Jvm.Cond.code ({ cls := "com/example/semijoin/semijoin/jpql/UseKeepsUnmatchedRowsPinLaw", name := "useAt", desc := "(I)Lcom/example/semijoin/semijoin/jpql/Block$Use;" } : Jvm.MethodName) method_3_code (1 : Nat) (Option.some (Jvm.ClassFile.FieldType.object "com/example/semijoin/semijoin/jpql/Block$Use")), Jvm.Cond.code ({ cls := "com/example/semijoin/semijoin/jpql/Block$Use", name := "keepsUnmatchedRows", desc := "()Z" } : Jvm.MethodName) prog_35_method_4_code (1 : Nat) (Option.some Jvm.ClassFile.FieldType.boolean)]
set_option maxRecDepth 65536 in
theorem codes_eq : words1.filter isCode = codes1 := rfl
theorem w_codes : ∀ c ∈ words1.filter isCode, c.before args0 about1 = true := by
  rw [codes_eq]
  intro c hc
  simp only [codes1, List.mem_cons, List.not_mem_nil, or_false] at hc
  rcases hc with rfl | rfl | rfl
  · exact w_c0
  · exact w_c1
  · exact w_c2
set_option maxRecDepth 65536 in
theorem w_t1 : (words1.take 24).all (fun c => isCode c || c.before args0 about1) = true := by decide +kernel
set_option maxRecDepth 65536 in
theorem w_t2 : (words1.drop 24).all (fun c => isCode c || c.before args0 about1) = true := by decide +kernel
theorem w_tables : (allAtoms (Jvm.Cond.code x code maxLocals ret :: tables_1)).before args0 about1 = true := by
  rw [allAtoms_all]
  show words1.all (fun c => c.before args0 about1) = true
  refine all_split ?_ w_codes
  rw [← List.take_append_drop 24 words1, List.all_append, w_t1, w_t2]
  rfl
set_option maxRecDepth 65536 in
theorem w_case : (Jvm.Cond.and given_1 narrow_1).before args0 about1 = true := by decide +kernel
theorem w_applies : (headSpec (Jvm.Cond.code x code maxLocals ret :: tables_1) room_1).applies x e0.platform about1 = true :=
  (Spec.applies_iff w_frames).mpr ⟨w_running, w_runnable, w_alone, w_named, w_hears, w_ripe, w_room, w_tables⟩
theorem atStart : AtStart classFile x code maxLocals ret World_1 tables_1 room_1 Calls_1 rest_1 Pre_1 launch0 p0 e0 about1 theMethod args0 below0 :=
  ⟨lists_1, trivial, launch0.admits_env _ _ _, launch0.least_env, fairChoices_fair.cas, fairChoices_fair.clock, w_frames, w_args, w_heap, w_applies, trivial, trivial, w_case⟩
end start1
theorem witness_1 : WitnessClaimed_1 := ⟨start1.p0, start1.e0, start1.about1, start1.theMethod, start1.args0, start1.below0, start1.atStart⟩
end Jvm.Pilot.@@N@@
