import JvmDerived
import JvmDerived.Pilot.@@N@@Statement
import JvmDerived.Pilot.@@N@@Code
set_option linter.unusedVariables false
set_option linter.unusedSimpArgs false
namespace Jvm.RoadKit
open Sem ClassFile Op Lib Jvm.Stand Jvm.Free Jvm.LawKit
section New
variable {p : Program} {l : Launch} {e : Env} {R : Room} {s : State} {m : MethodId} {args : Array Value} {below : List Frame} {meth : Method} {c : Code} {T : State} {locs : List Loc} {cells slots : Nat}
theorem retI (X : Stand p l e R s m args below meth c T locs cells slots) (hx : p.tables.exec = Jvm.exec) {pc : Nat} {Ls : Array Slot} {z : Int32} {rest : List Value} (hret : meth.sig.returnType = some .int) (hd : decode c.code pc = .ok (.ireturn, 1)) {fs : List Frame}
    (hl : ∀ (f : JFrame) (acts : List Action), f.method = m → f.locked = none → f.entered = [] → (doReturn e (T.setTop f) acts (some (.int z))).1 = T.setFrames fs) : Steps p.tables e below (T.setTop (mkF m pc Ls (.int z :: rest))) (T.setFrames fs) := by
  have hm' : T.vm.method? m = some meth := X.method'
  have hn : narrow .int (.int z) = .int z := rfl
  show Steps p.tables e below (T.setTop { method := m, pc := pc, locals := Ls, stack := _ :: rest, locked := none }) _
  jvm_step X.here [X.here.top, hx, hd, hm', hret, hn]
  first | (intro acts; rw [hl _ acts rfl rfl rfl]) | rw [hl _ _ rfl rfl rfl]
  exact Steps.refl _
theorem own_retN (X : Stand p l e R s m args below meth c T locs cells slots) (hx : p.tables.exec = Jvm.exec) {pc : Nat} {Ls : Array Slot} {z z' : Int32} {t : FieldType} {rest : List Value} (hret : meth.sig.returnType = some t) (ht : t = .boolean ∨ t = .byte ∨ t = .char ∨ t = .short)
    (hd : decode c.code pc = .ok (.ireturn, 1)) (hz : nar t z = z') {fs : List Frame} (hl : ∀ (f : JFrame) (acts : List Action), f.method = m → f.locked = none → f.entered = [] → (doReturn e (T.setTop f) acts (some (.int z'))).1 = T.setFrames fs) :
    Steps p.tables e below (T.setTop (mkF m pc Ls (.int z :: rest))) (T.setFrames fs) := by
  subst hz; exact retN X hx hret ht hd hl
end New
theorem own_nar_if {P : Prop} [Decidable P] {a b : Int32} (ha : nar .boolean a = a) (hb : nar .boolean b = b) : nar .boolean (if P then a else b) = if P then a else b := by
  split
  · exact ha
  · exact hb
theorem own_b_lt (x y : Int32) : (if if_icmp.holds .lt x y = true then (0 : Int32) else 1) = if x < y then 0 else 1 := by
  by_cases h : x < y
  · rw [(tlt h).1]; simp [h]
  · rw [(flt h).1]; simp [h]
theorem own_b_ge (x y : Int32) : (if if_icmp.holds .ge x y = true then (0 : Int32) else 1) = if x < y then 1 else 0 := by
  by_cases h : x < y
  · rw [(tlt h).2.1]; simp [h]
  · rw [(flt h).2.1]; simp [h]
theorem own_b_gt (x y : Int32) : (if if_icmp.holds .gt x y = true then (0 : Int32) else 1) = if y < x then 0 else 1 := by
  by_cases h : y < x
  · rw [(tlt h).2.2.1]; simp [h]
  · rw [(flt h).2.2.1]; simp [h]
theorem own_b_le (x y : Int32) : (if if_icmp.holds .le x y = true then (0 : Int32) else 1) = if y < x then 1 else 0 := by
  by_cases h : y < x
  · rw [(tlt h).2.2.2]; simp [h]
  · rw [(flt h).2.2.2]; simp [h]
theorem own_b_eq (x y : Int32) : (if if_icmp.holds .eq x y = true then (0 : Int32) else 1) = if x = y then 0 else 1 := by
  by_cases h : x = y
  · rw [(teq h).1]; simp [h]
  · rw [(feq h).1]; simp [h]
theorem own_b_ne (x y : Int32) : (if if_icmp.holds .ne x y = true then (0 : Int32) else 1) = if x = y then 1 else 0 := by
  by_cases h : x = y
  · rw [(teq h).2]; simp [h]
  · rw [(feq h).2]; simp [h]
theorem own_boolC {tb : Tables} [Ours tb] {e : Env} {below : List Frame} {T target : State} {m : MethodId} {c : Code} {g : JFrame} (h : At T m c below) (hx : tb.exec = Jvm.exec) (hg : g.method = m) {cd : ClassFile.Cond} {x y z : Int32} {rest : List Value}
    (hd0 : decode c.code g.pc = .ok (.if_icmp cd 7, 3)) (hd1 : decode c.code (g.pc + 3) = .ok (.iconst 1, 1)) (hd2 : decode c.code (g.pc + 4) = .ok (.goto 4, 3)) (hd3 : decode c.code (g.pc + 7) = .ok (.iconst 0, 1)) (hs : g.stack = .int y :: .int x :: rest)
    (hz : (if if_icmp.holds cd x y = true then (0 : Int32) else 1) = z) (hr : Steps tb e below (T.setTop { g with pc := g.pc + 8, stack := .int z :: rest }) target) : Steps tb e below (T.setTop g) target := by
  by_cases hc : if_icmp.holds cd x y = true
  · rw [if_pos hc] at hz; subst hz
    exact XS.icmpYes h hx hg (pc0 := g.pc) (pc' := g.pc + 7) rfl hd0 hs hc (by omega) (by omega) (XS.iconst h hx hg hd3 hr)
  · rw [if_neg hc] at hz; subst hz
    exact XS.icmpNo h hx hg hd0 hs (by simpa using hc) (XS.iconst h hx hg hd1 (XS.goto h hx hg (pc0 := g.pc + 4) (pc' := g.pc + 8) rfl hd2 (by omega) (by omega) hr))
theorem own_boolI {tb : Tables} [Ours tb] {e : Env} {below : List Frame} {T target : State} {m : MethodId} {c : Code} {g : JFrame} (h : At T m c below) (hx : tb.exec = Jvm.exec) (hg : g.method = m) {cd : ClassFile.Cond} {x z : Int32} {rest : List Value}
    (hd0 : decode c.code g.pc = .ok (.ifCond cd 7, 3)) (hd1 : decode c.code (g.pc + 3) = .ok (.iconst 1, 1)) (hd2 : decode c.code (g.pc + 4) = .ok (.goto 4, 3)) (hd3 : decode c.code (g.pc + 7) = .ok (.iconst 0, 1)) (hs : g.stack = .int x :: rest)
    (hz : (if if_icmp.holds cd x 0 = true then (0 : Int32) else 1) = z) (hr : Steps tb e below (T.setTop { g with pc := g.pc + 8, stack := .int z :: rest }) target) : Steps tb e below (T.setTop g) target := by
  by_cases hc : if_icmp.holds cd x 0 = true
  · rw [if_pos hc] at hz; subst hz
    exact XS.ifYes h hx hg (pc0 := g.pc) (pc' := g.pc + 7) rfl hd0 hs ((if0 _ _).trans hc) (by omega) (by omega) (XS.iconst h hx hg hd3 hr)
  · rw [if_neg hc] at hz; subst hz
    exact XS.ifNo h hx hg hd0 hs ((if0 _ _).trans (by simpa using hc)) (XS.iconst h hx hg hd1 (XS.goto h hx hg (pc0 := g.pc + 4) (pc' := g.pc + 8) rfl hd2 (by omega) (by omega) hr))
theorem own_selects_private {y : MethodName} {s : State} {args : Array Value} {n : Nat} (hins : (Cond.instantiable y.cls n).before args s = true) (hpriv : (Cond.privateMethod y).before args s = true) (hinst : (Cond.instanceMethod y).before args s = true) (hy : y.cls ≠ "java/lang/invoke/MethodHandle" ∧ y.cls ≠ "java/lang/invoke/VarHandle" := by decide) :
    (Cond.selects y.cls y y).before args s = true := by
  obtain ⟨c, k, hc, hk, -, hniab, -, -⟩ := Cond.instantiable_spec hins
  have hni : k.isInterface = false := (Bool.or_eq_false_iff.mp hniab).1
  obtain ⟨mk, methM, hnamed, hmethM, -, -⟩ := Cond.instanceMethod_spec hinst
  have hfound : s.methodFound? y.cls y.name y.desc = some mk := State.methodFound?_of_named hnamed hy
  have hcls : mk.cls = c := Option.some.inj ((findClass_of_methodNamed hnamed).symm.trans hc)
  have hsel : selectMethod {} s.vm c mk = .method mk := selectMethod_private hmethM (Cond.privateMethod_at hpriv mk methM hnamed hmethM)
  simp only [Cond.before, Cond.holds, Cond.value, hc, hfound, hnamed, hsel, hcls, hk]
  simp; exact hni
theorem own_sta_keep {Z : State} {h h' : Heap} {C n d : String} {v : Value} {ws : List Addr} (F : Sta Z h C n d v) (K : Keep h h' ws) (q : ∀ x ∈ ws, ∀ cell : Cell, h[x]? = some cell → cell.vm.isStatics = false) : Sta Z h' C n d v := by
  obtain ⟨cf, i, k, f, st, cell, h1, h2, h3, h4, h5, h6, h7⟩ := F
  refine ⟨cf, i, k, f, st, cell, h1, h2, h3, h4, K.2.1 _ _ h5 (fun hm => ?_), h6, h7⟩
  rw [q _ hm _ h5] at h6; cases h6
theorem own_plain_exa {Z : State} {h : Heap} {a : Addr} {C : String} (F : Exa Z h a C) : ∀ cell : Cell, h[a]? = some cell → cell.vm.isStatics = false := fun cell hc => by
  obtain ⟨c, k, h1, -, -, h4, -⟩ := F
  cases h1.symm.trans hc; exact h4
end Jvm.RoadKit
namespace Jvm.Pilot.@@N@@
open Jvm Jvm.ClassFile Sem Op Lib Jvm.Free Jvm.Stand Jvm.LawKit Jvm.RoadKit Bundle Jvm.Pilot.@@N@@.Jvm.D
theorem own_asym {a b : Int32} (h : a < b) : ¬ (b < a) := by
  rw [Int32.lt_iff_toInt_lt] at h ⊢
  omega
theorem own_succ {a : Int32} (h : ¬ (a = (2147483647 : Int32))) : a < a + (1 : Int32) := by
  rw [← Int32.toInt_inj] at h
  rw [Int32.lt_iff_toInt_lt]
  have c1 := c_iadd a 1
  have r1 := rng32 a; have r2 := rng32 (a + 1)
  have e1 : (1 : Int32).toInt = 1 := by decide
  have e2 : (2147483647 : Int32).toInt = 2147483647 := by decide
  omega
theorem d1_0 : decode jdk_29_method_69_code 0 = .ok (.iload_n 0, 1) := by decide +kernel
theorem d1_1 : decode jdk_29_method_69_code 1 = .ok (.iload_n 1, 1) := by decide +kernel
theorem d1_2 : decode jdk_29_method_69_code 2 = .ok (.if_icmp .gt 7, 3) := by decide +kernel
theorem d1_5 : decode jdk_29_method_69_code 5 = .ok (.iload_n 0, 1) := by decide +kernel
theorem d1_6 : decode jdk_29_method_69_code 6 = .ok (.goto 4, 3) := by decide +kernel
theorem d1_9 : decode jdk_29_method_69_code 9 = .ok (.iload_n 1, 1) := by decide +kernel
theorem d1_10 : decode jdk_29_method_69_code 10 = .ok (.ireturn, 1) := by decide +kernel
theorem ef_rm1 (m : MethodId) (x0 : Int32) (x1 : Int32) : entryFrame m #[(.int x0), (.int x1)] 2 = mkF m 0 #[.val (.int x0), .val (.int x1)] [] := by first | (simp [entryFrame, mkF, argsToLocals, Value.category]; done) | rfl
def Q1 (Z : State) (p0 : Int32) (p1 : Int32) (h0 : Heap) (n0 : Nat) (v : Option Value) (h : Heap) (L : List Loc) : Prop := v = some (.int (if p1 < p0 then p1 else p0)) ∧ Fr n0 L ∧ h = h0
set_option maxRecDepth 65536 in
set_option maxHeartbeats 40000000 in
theorem rm1 (l : Launch) (Z : State) (a0 : Array Value) (hw : ∀ d ∈ tables_1, d.before a0 Z = true) (ws : List Jvm.Cond) (p0 : Int32) (p1 : Int32) (h0 : Heap) (n0 : Nat) (Z0 : n0 ≤ h0.size)  :
    MetFree l (⟨"java/lang/Math", "min", "(II)I"⟩ : MethodName) (head1 (Jvm.Cond.code (⟨"java/lang/Math", "min", "(II)I"⟩ : MethodName) jdk_29_method_69_code 2 (some .int) :: ws) ({ frames := 0, cells := 0, slots := 0, locals := 0 } : Room)) (fun a U => a = #[(.int p0), (.int p1)] ∧ Z.Warmed39 U.vm ∧ U.heap = h0) (fun _ _ _ _ _ => True) (fun _ U o U' => ∃ v L, o = .returned v ∧ Q1 Z p0 p1 h0 n0 v U'.heap L ∧ FrameEnd U o U' L ({ frames := 0, cells := 0, slots := 0, locals := 0 } : Room).cells ({ frames := 0, cells := 0, slots := 0, locals := 0 } : Room).slots) := by
  refine MetFree.of_bodySF (Jvm.Free.JP.mathPlain rfl (by decide +kernel)) hisR ?_
  intro p e s0 m args below meth c s₁ Bd hml0 hP hK
  obtain ⟨rfl, hZ, hh⟩ := hP
  have hx := Bd.exec
  have hby := Bd.bytes
  have hml : c.maxLocals = 2 := hml0
  have hown : s0.vm.findClass "java/lang/Math" = some m.cls := findClass_of_methodNamed Bd.named
  have hnm := (name_of_methodNamed Bd.named Bd.method).1
  have X0 : Stand p l e ({ frames := 0, cells := 0, slots := 0, locals := 0 } : Room) s0 m #[(.int p0), (.int p1)] below meth c s₁ [] 0 0 := Stand.of_body Bd
  have e0 : s₁.heap = h0 := by rw [← hh, Bd.state]; rfl
  have N0 := Fr.nil n0
  have pre0 : ∀ t, Steps p.tables e below (s₁.setTop (mkF m 0 #[.val (.int p0), .val (.int p1)] [])) t → Steps p.tables e below (s₁.setTop (entryFrame m #[(.int p0), (.int p1)] 2)) t := fun t k => castTop (ef_rm1 m p0 p1) k
  have pre1 : ∀ t, Steps p.tables e below (s₁.setTop (mkF m 2 #[.val (.int p0), .val (.int p1)] [(.int p1), (.int p0)])) t → Steps p.tables e below (s₁.setTop (entryFrame m #[(.int p0), (.int p1)] 2)) t := fun t k => by
    refine pre0 t ?_
    show Steps p.tables e below (s₁.setTop (mkF m 0 #[.val (.int p0), .val (.int p1)] [])) _
    refine XS.iloadN X0.here hx rfl (hb hby d1_0) rfl ?_
    show Steps p.tables e below (s₁.setTop (mkF m 1 #[.val (.int p0), .val (.int p1)] [(.int p0)])) _
    refine XS.iloadN X0.here hx rfl (hb hby d1_1) rfl ?_
    exact k
  by_cases hc2_2 : p1 < p0
  · have pre3 : ∀ t, Steps p.tables e below (s₁.setTop (mkF m 10 #[.val (.int p0), .val (.int p1)] [(.int p1)])) t → Steps p.tables e below (s₁.setTop (entryFrame m #[(.int p0), (.int p1)] 2)) t := fun t k => by
      refine pre1 t ?_
      show Steps p.tables e below (s₁.setTop (mkF m 2 #[.val (.int p0), .val (.int p1)] [(.int p1), (.int p0)])) _
      refine XS.icmpYes X0.here hx rfl (pc0 := 2) (pc' := 9) rfl (hb hby d1_2) rfl (tlt hc2_2).2.2.1 (by decide) (by decide) ?_
      show Steps p.tables e below (s₁.setTop (mkF m 9 #[.val (.int p0), .val (.int p1)] [])) _
      refine XS.iloadN X0.here hx rfl (hb hby d1_9) rfl ?_
      exact k
    obtain ⟨fs, hrq, hrun, hended, hW, hsame⟩ := X0.leave (v := some (.int p1)) (fun h => by rw [Bd.returns] at h; cases h)
    refine ⟨_, _, pre3 _ ?_, hrun, hended, _, _, rfl, ?_, ⟨_, rfl⟩, hW, hsame.mono (by decide) (by decide)⟩
    · show Steps p.tables e below (s₁.setTop (mkF m 10 #[.val (.int p0), .val (.int p1)] [(.int p1)])) _
      exact retI X0 hx Bd.returns (hb hby d1_10) hrq
    · show Q1 Z p0 p1 h0 n0 _ s₁.heap _
      rw [e0]
      exact ⟨by rw [if_pos hc2_2], N0, rfl⟩
  · have pre4 : ∀ t, Steps p.tables e below (s₁.setTop (mkF m 10 #[.val (.int p0), .val (.int p1)] [(.int p0)])) t → Steps p.tables e below (s₁.setTop (entryFrame m #[(.int p0), (.int p1)] 2)) t := fun t k => by
      refine pre1 t ?_
      show Steps p.tables e below (s₁.setTop (mkF m 2 #[.val (.int p0), .val (.int p1)] [(.int p1), (.int p0)])) _
      refine XS.icmpNo X0.here hx rfl (hb hby d1_2) rfl (flt hc2_2).2.2.1 ?_
      show Steps p.tables e below (s₁.setTop (mkF m 5 #[.val (.int p0), .val (.int p1)] [])) _
      refine XS.iloadN X0.here hx rfl (hb hby d1_5) rfl ?_
      show Steps p.tables e below (s₁.setTop (mkF m 6 #[.val (.int p0), .val (.int p1)] [(.int p0)])) _
      refine XS.goto X0.here hx rfl (pc0 := 6) (pc' := 10) rfl (hb hby d1_6) (by decide) (by decide) ?_
      exact k
    obtain ⟨fs, hrq, hrun, hended, hW, hsame⟩ := X0.leave (v := some (.int p0)) (fun h => by rw [Bd.returns] at h; cases h)
    refine ⟨_, _, pre4 _ ?_, hrun, hended, _, _, rfl, ?_, ⟨_, rfl⟩, hW, hsame.mono (by decide) (by decide)⟩
    · show Steps p.tables e below (s₁.setTop (mkF m 10 #[.val (.int p0), .val (.int p1)] [(.int p0)])) _
      exact retI X0 hx Bd.returns (hb hby d1_10) hrq
    · show Q1 Z p0 p1 h0 n0 _ s₁.heap _
      rw [e0]
      exact ⟨by rw [if_neg hc2_2], N0, rfl⟩
theorem d2_0 : decode jdk_29_method_65_code 0 = .ok (.iload_n 0, 1) := by decide +kernel
theorem d2_1 : decode jdk_29_method_65_code 1 = .ok (.iload_n 1, 1) := by decide +kernel
theorem d2_2 : decode jdk_29_method_65_code 2 = .ok (.if_icmp .lt 7, 3) := by decide +kernel
theorem d2_5 : decode jdk_29_method_65_code 5 = .ok (.iload_n 0, 1) := by decide +kernel
theorem d2_6 : decode jdk_29_method_65_code 6 = .ok (.goto 4, 3) := by decide +kernel
theorem d2_9 : decode jdk_29_method_65_code 9 = .ok (.iload_n 1, 1) := by decide +kernel
theorem d2_10 : decode jdk_29_method_65_code 10 = .ok (.ireturn, 1) := by decide +kernel
theorem ef_rm2 (m : MethodId) (x0 : Int32) (x1 : Int32) : entryFrame m #[(.int x0), (.int x1)] 2 = mkF m 0 #[.val (.int x0), .val (.int x1)] [] := by first | (simp [entryFrame, mkF, argsToLocals, Value.category]; done) | rfl
def Q2 (Z : State) (p0 : Int32) (p1 : Int32) (h0 : Heap) (n0 : Nat) (v : Option Value) (h : Heap) (L : List Loc) : Prop := v = some (.int (if p0 < p1 then p1 else p0)) ∧ Fr n0 L ∧ h = h0
set_option maxRecDepth 65536 in
set_option maxHeartbeats 40000000 in
theorem rm2 (l : Launch) (Z : State) (a0 : Array Value) (hw : ∀ d ∈ tables_1, d.before a0 Z = true) (ws : List Jvm.Cond) (p0 : Int32) (p1 : Int32) (h0 : Heap) (n0 : Nat) (Z0 : n0 ≤ h0.size)  :
    MetFree l (⟨"java/lang/Math", "max", "(II)I"⟩ : MethodName) (head1 (Jvm.Cond.code (⟨"java/lang/Math", "max", "(II)I"⟩ : MethodName) jdk_29_method_65_code 2 (some .int) :: ws) ({ frames := 0, cells := 0, slots := 0, locals := 0 } : Room)) (fun a U => a = #[(.int p0), (.int p1)] ∧ Z.Warmed39 U.vm ∧ U.heap = h0) (fun _ _ _ _ _ => True) (fun _ U o U' => ∃ v L, o = .returned v ∧ Q2 Z p0 p1 h0 n0 v U'.heap L ∧ FrameEnd U o U' L ({ frames := 0, cells := 0, slots := 0, locals := 0 } : Room).cells ({ frames := 0, cells := 0, slots := 0, locals := 0 } : Room).slots) := by
  refine MetFree.of_bodySF (Jvm.Free.JP.mathPlain rfl (by decide +kernel)) hisR ?_
  intro p e s0 m args below meth c s₁ Bd hml0 hP hK
  obtain ⟨rfl, hZ, hh⟩ := hP
  have hx := Bd.exec
  have hby := Bd.bytes
  have hml : c.maxLocals = 2 := hml0
  have hown : s0.vm.findClass "java/lang/Math" = some m.cls := findClass_of_methodNamed Bd.named
  have hnm := (name_of_methodNamed Bd.named Bd.method).1
  have X0 : Stand p l e ({ frames := 0, cells := 0, slots := 0, locals := 0 } : Room) s0 m #[(.int p0), (.int p1)] below meth c s₁ [] 0 0 := Stand.of_body Bd
  have e0 : s₁.heap = h0 := by rw [← hh, Bd.state]; rfl
  have N0 := Fr.nil n0
  have pre0 : ∀ t, Steps p.tables e below (s₁.setTop (mkF m 0 #[.val (.int p0), .val (.int p1)] [])) t → Steps p.tables e below (s₁.setTop (entryFrame m #[(.int p0), (.int p1)] 2)) t := fun t k => castTop (ef_rm2 m p0 p1) k
  have pre1 : ∀ t, Steps p.tables e below (s₁.setTop (mkF m 2 #[.val (.int p0), .val (.int p1)] [(.int p1), (.int p0)])) t → Steps p.tables e below (s₁.setTop (entryFrame m #[(.int p0), (.int p1)] 2)) t := fun t k => by
    refine pre0 t ?_
    show Steps p.tables e below (s₁.setTop (mkF m 0 #[.val (.int p0), .val (.int p1)] [])) _
    refine XS.iloadN X0.here hx rfl (hb hby d2_0) rfl ?_
    show Steps p.tables e below (s₁.setTop (mkF m 1 #[.val (.int p0), .val (.int p1)] [(.int p0)])) _
    refine XS.iloadN X0.here hx rfl (hb hby d2_1) rfl ?_
    exact k
  by_cases hc2_2 : p0 < p1
  · have pre3 : ∀ t, Steps p.tables e below (s₁.setTop (mkF m 10 #[.val (.int p0), .val (.int p1)] [(.int p1)])) t → Steps p.tables e below (s₁.setTop (entryFrame m #[(.int p0), (.int p1)] 2)) t := fun t k => by
      refine pre1 t ?_
      show Steps p.tables e below (s₁.setTop (mkF m 2 #[.val (.int p0), .val (.int p1)] [(.int p1), (.int p0)])) _
      refine XS.icmpYes X0.here hx rfl (pc0 := 2) (pc' := 9) rfl (hb hby d2_2) rfl (tlt hc2_2).1 (by decide) (by decide) ?_
      show Steps p.tables e below (s₁.setTop (mkF m 9 #[.val (.int p0), .val (.int p1)] [])) _
      refine XS.iloadN X0.here hx rfl (hb hby d2_9) rfl ?_
      exact k
    obtain ⟨fs, hrq, hrun, hended, hW, hsame⟩ := X0.leave (v := some (.int p1)) (fun h => by rw [Bd.returns] at h; cases h)
    refine ⟨_, _, pre3 _ ?_, hrun, hended, _, _, rfl, ?_, ⟨_, rfl⟩, hW, hsame.mono (by decide) (by decide)⟩
    · show Steps p.tables e below (s₁.setTop (mkF m 10 #[.val (.int p0), .val (.int p1)] [(.int p1)])) _
      exact retI X0 hx Bd.returns (hb hby d2_10) hrq
    · show Q2 Z p0 p1 h0 n0 _ s₁.heap _
      rw [e0]
      exact ⟨by rw [if_pos hc2_2], N0, rfl⟩
  · have pre4 : ∀ t, Steps p.tables e below (s₁.setTop (mkF m 10 #[.val (.int p0), .val (.int p1)] [(.int p0)])) t → Steps p.tables e below (s₁.setTop (entryFrame m #[(.int p0), (.int p1)] 2)) t := fun t k => by
      refine pre1 t ?_
      show Steps p.tables e below (s₁.setTop (mkF m 2 #[.val (.int p0), .val (.int p1)] [(.int p1), (.int p0)])) _
      refine XS.icmpNo X0.here hx rfl (hb hby d2_2) rfl (flt hc2_2).1 ?_
      show Steps p.tables e below (s₁.setTop (mkF m 5 #[.val (.int p0), .val (.int p1)] [])) _
      refine XS.iloadN X0.here hx rfl (hb hby d2_5) rfl ?_
      show Steps p.tables e below (s₁.setTop (mkF m 6 #[.val (.int p0), .val (.int p1)] [(.int p0)])) _
      refine XS.goto X0.here hx rfl (pc0 := 6) (pc' := 10) rfl (hb hby d2_6) (by decide) (by decide) ?_
      exact k
    obtain ⟨fs, hrq, hrun, hended, hW, hsame⟩ := X0.leave (v := some (.int p0)) (fun h => by rw [Bd.returns] at h; cases h)
    refine ⟨_, _, pre4 _ ?_, hrun, hended, _, _, rfl, ?_, ⟨_, rfl⟩, hW, hsame.mono (by decide) (by decide)⟩
    · show Steps p.tables e below (s₁.setTop (mkF m 10 #[.val (.int p0), .val (.int p1)] [(.int p0)])) _
      exact retI X0 hx Bd.returns (hb hby d2_10) hrq
    · show Q2 Z p0 p1 h0 n0 _ s₁.heap _
      rw [e0]
      exact ⟨by rw [if_neg hc2_2], N0, rfl⟩
theorem d3_0 : decode prog_18_method_1_code 0 = .ok (.aload_n 0, 1) := by decide +kernel
theorem d3_1 : decode prog_18_method_1_code 1 = .ok (.invokespecial 1, 3) := by decide +kernel
theorem d3_4 : decode prog_18_method_1_code 4 = .ok (.aload_n 0, 1) := by decide +kernel
theorem d3_5 : decode prog_18_method_1_code 5 = .ok (.iload_n 1, 1) := by decide +kernel
theorem d3_6 : decode prog_18_method_1_code 6 = .ok (.putfield 7, 3) := by decide +kernel
theorem d3_9 : decode prog_18_method_1_code 9 = .ok (.return_, 1) := by decide +kernel
theorem ef_rm3 (m : MethodId) (x0 : Addr) (x1 : Int32) : entryFrame m #[(.ref x0), (.int x1)] 2 = mkF m 0 #[.val (.ref x0), .val (.int x1)] [] := by first | (simp [entryFrame, mkF, argsToLocals, Value.category]; done) | rfl
theorem pn_0 : plainName "com/example/depthwire/depthwire/InboundSeqNums" = true := by first | (simp [plainName, overriddenIn]; done) | decide +kernel
def Q3 (Z : State) (ob : Addr) (p1 : Int32) (h0 : Heap) (n0 : Nat) (v : Option Value) (h : Heap) (L : List Loc) : Prop := v = none ∧ Fr n0 L ∧ Keep h0 h [ob] ∧ Exa Z h ob "com/example/depthwire/depthwire/InboundSeqNums" ∧ Fld Z h ob "com/example/depthwire/depthwire/InboundSeqNums" "expected" "I" (.int p1) ∧ Fld Z h ob "com/example/depthwire/depthwire/InboundSeqNums" "askedUpTo" "I" (.int (0 : Int32))
set_option maxRecDepth 65536 in
set_option maxHeartbeats 40000000 in
theorem rm3 (l : Launch) (Z : State) (a0 : Array Value) (hw : ∀ d ∈ tables_1, d.before a0 Z = true) (ws : List Jvm.Cond) (ob : Addr) (p1 : Int32) (h0 : Heap) (n0 : Nat) (Z0 : n0 ≤ h0.size) (E_ob : Exa Z h0 ob "com/example/depthwire/depthwire/InboundSeqNums") (F_e : Fld Z h0 ob "com/example/depthwire/depthwire/InboundSeqNums" "expected" "I" (.int (0 : Int32))) (F_a : Fld Z h0 ob "com/example/depthwire/depthwire/InboundSeqNums" "askedUpTo" "I" (.int (0 : Int32))) (g_ob : n0 ≤ ob) :
    MetFree l (⟨"com/example/depthwire/depthwire/InboundSeqNums", "<init>", "(I)V"⟩ : MethodName) (head1 (Jvm.Cond.code (⟨"com/example/depthwire/depthwire/InboundSeqNums", "<init>", "(I)V"⟩ : MethodName) prog_18_method_1_code 2 none :: ws) ({ frames := 1, cells := 0, slots := 0, locals := 12 } : Room)) (fun a U => a = #[(.ref ob), (.int p1)] ∧ Z.Warmed39 U.vm ∧ U.heap = h0) (fun _ _ _ _ _ => True) (fun _ U o U' => ∃ v L, o = .returned v ∧ Q3 Z ob p1 h0 n0 v U'.heap L ∧ FrameEnd U o U' L ({ frames := 1, cells := 0, slots := 0, locals := 12 } : Room).cells ({ frames := 1, cells := 0, slots := 0, locals := 12 } : Room).slots) := by
  refine MetFree.of_bodySF (plainFor_of_name pn_0) hisR ?_
  intro p e s0 m args below meth c s₁ Bd hml0 hP hK
  obtain ⟨rfl, hZ, hh⟩ := hP
  have hx := Bd.exec
  have hby := Bd.bytes
  have hml : c.maxLocals = 2 := hml0
  have hown : s0.vm.findClass "com/example/depthwire/depthwire/InboundSeqNums" = some m.cls := findClass_of_methodNamed Bd.named
  have hnm := (name_of_methodNamed Bd.named Bd.method).1
  have X0 : Stand p l e ({ frames := 1, cells := 0, slots := 0, locals := 12 } : Room) s0 m #[(.ref ob), (.int p1)] below meth c s₁ [] 0 0 := Stand.of_body Bd
  have e0 : s₁.heap = h0 := by rw [← hh, Bd.state]; rfl
  have N0 := Fr.nil n0
  have pre0 : ∀ t, Steps p.tables e below (s₁.setTop (mkF m 0 #[.val (.ref ob), .val (.int p1)] [])) t → Steps p.tables e below (s₁.setTop (entryFrame m #[(.ref ob), (.int p1)] 2)) t := fun t k => castTop (ef_rm3 m ob p1) k
  obtain ⟨T1, X1, e1, st1⟩ := initO X0 hx hZ hown (hw _ (List.mem_of_getElem? (i := 13) rfl)) (hw _ (List.mem_of_getElem? (i := 14) rfl)) (hw _ (List.mem_of_getElem? (i := 15) rfl)) e0 (g := (mkF m 1 #[.val (.ref ob), .val (.int p1)] [(.ref ob)])) rfl (by rw [hml]; rfl) rfl (hb hby d3_1) (by decide) (W := 0) (by show 2 * 0 + _ ≤ _; exact Nat.le_of_eq rfl) (by decide)
  obtain ⟨T2, h2, X2, e2, W2, st2⟩ := putF X1 hx hZ hown (host := "") (Or.inl (hw _ (List.mem_of_getElem? (i := 16) rfl))) Via.refl e1 F_e E_ob (Or.inl (hw _ (List.mem_of_getElem? (i := 17) rfl))) (hw _ (List.mem_of_getElem? (i := 8) rfl)) (ty := .int) (by decide) rfl rfl (g := (mkF m 6 #[.val (.ref ob), .val (.int p1)] [(.int p1), (.ref ob)])) rfl rfl (hb hby d3_6)
  have Fw2 : Fld Z h2 ob "com/example/depthwire/depthwire/InboundSeqNums" "expected" "I" (.int p1) := F_e.same W2
  have Z3 : n0 ≤ h2.size := Nat.le_trans Z0 (Keep.of_wr W2).1
  have K2 : Keep h0 h2 [ob] := (Keep.refl h0 [ob]).wr W2 (Or.inl (List.mem_of_getElem? (i := 0) rfl))
  have N2 := Fr.snoc X2 N0 g_ob
  have pre4 : ∀ t, Steps p.tables e below (T2.setTop (mkF m 9 #[.val (.ref ob), .val (.int p1)] [])) t → Steps p.tables e below (s₁.setTop (entryFrame m #[(.ref ob), (.int p1)] 2)) t := fun t k => by
    refine pre0 t ?_
    show Steps p.tables e below (s₁.setTop (mkF m 0 #[.val (.ref ob), .val (.int p1)] [])) _
    refine XS.aloadN X0.here hx rfl (hb hby d3_0) rfl rfl ?_
    show Steps p.tables e below (s₁.setTop (mkF m 1 #[.val (.ref ob), .val (.int p1)] [(.ref ob)])) _
    refine st1 _ ?_
    show Steps p.tables e below (T1.setTop (mkF m 4 #[.val (.ref ob), .val (.int p1)] [])) _
    refine XS.aloadN X1.here hx rfl (hb hby d3_4) rfl rfl ?_
    show Steps p.tables e below (T1.setTop (mkF m 5 #[.val (.ref ob), .val (.int p1)] [(.ref ob)])) _
    refine XS.iloadN X1.here hx rfl (hb hby d3_5) rfl ?_
    show Steps p.tables e below (T1.setTop (mkF m 6 #[.val (.ref ob), .val (.int p1)] [(.int p1), (.ref ob)])) _
    refine st2 _ ?_
    exact k
  obtain ⟨fs, hrq, hrun, hended, hW, hsame⟩ := X2.leave (v := none) (fun _ => rfl)
  refine ⟨_, _, pre4 _ ?_, hrun, hended, _, _, rfl, ?_, ⟨_, rfl⟩, hW, hsame.mono (by decide) (by decide)⟩
  · show Steps p.tables e below (T2.setTop (mkF m 9 #[.val (.ref ob), .val (.int p1)] [])) _
    exact X2.returnOut hx Bd.returns (hb hby d3_9) hrq
  · show Q3 Z ob p1 h0 n0 _ T2.heap _
    rw [e2]
    have c5 : Exa Z h2 ob "com/example/depthwire/depthwire/InboundSeqNums" := (E_ob.wr W2)
    have c6 : Fld Z h2 ob "com/example/depthwire/depthwire/InboundSeqNums" "askedUpTo" "I" (.int (0 : Int32)) := (F_a.other W2 (Or.inr (slot_ne (a0 := a0) (Or.inl (hw _ (List.mem_of_getElem? (i := 24) rfl))) (Or.inl (hw _ (List.mem_of_getElem? (i := 17) rfl))) (by decide) (t := .int) (t' := .int) (by decide) (by decide))))
    exact ⟨rfl, N2, K2, c5, Fw2, c6⟩
theorem d7_0 : decode prog_18_method_2_code 0 = .ok (.aload_n 0, 1) := by decide +kernel
theorem d7_1 : decode prog_18_method_2_code 1 = .ok (.getfield 7, 3) := by decide +kernel
theorem d7_4 : decode prog_18_method_2_code 4 = .ok (.ireturn, 1) := by decide +kernel
theorem ef_rm7 (m : MethodId) (x0 : Addr) : entryFrame m #[(.ref x0)] 1 = mkF m 0 #[.val (.ref x0)] [] := by first | (simp [entryFrame, mkF, argsToLocals, Value.category]; done) | rfl
def Q7 (Z : State) (ob : Addr) (E : Int32) (h0 : Heap) (n0 : Nat) (v : Option Value) (h : Heap) (L : List Loc) : Prop := v = some (.int E) ∧ Fr n0 L ∧ h = h0
set_option maxRecDepth 65536 in
set_option maxHeartbeats 40000000 in
theorem rm7 (l : Launch) (Z : State) (a0 : Array Value) (hw : ∀ d ∈ tables_1, d.before a0 Z = true) (ws : List Jvm.Cond) (ob : Addr) (E : Int32) (h0 : Heap) (n0 : Nat) (Z0 : n0 ≤ h0.size) (F_e : Fld Z h0 ob "com/example/depthwire/depthwire/InboundSeqNums" "expected" "I" (.int E)) :
    MetFree l (⟨"com/example/depthwire/depthwire/InboundSeqNums", "expected", "()I"⟩ : MethodName) (head1 (Jvm.Cond.code (⟨"com/example/depthwire/depthwire/InboundSeqNums", "expected", "()I"⟩ : MethodName) prog_18_method_2_code 1 (some .int) :: ws) ({ frames := 0, cells := 0, slots := 0, locals := 0 } : Room)) (fun a U => a = #[(.ref ob)] ∧ Z.Warmed39 U.vm ∧ U.heap = h0) (fun _ _ _ _ _ => True) (fun _ U o U' => ∃ v L, o = .returned v ∧ Q7 Z ob E h0 n0 v U'.heap L ∧ FrameEnd U o U' L ({ frames := 0, cells := 0, slots := 0, locals := 0 } : Room).cells ({ frames := 0, cells := 0, slots := 0, locals := 0 } : Room).slots) := by
  refine MetFree.of_bodySF (plainFor_of_name pn_0) hisR ?_
  intro p e s0 m args below meth c s₁ Bd hml0 hP hK
  obtain ⟨rfl, hZ, hh⟩ := hP
  have hx := Bd.exec
  have hby := Bd.bytes
  have hml : c.maxLocals = 1 := hml0
  have hown : s0.vm.findClass "com/example/depthwire/depthwire/InboundSeqNums" = some m.cls := findClass_of_methodNamed Bd.named
  have hnm := (name_of_methodNamed Bd.named Bd.method).1
  have X0 : Stand p l e ({ frames := 0, cells := 0, slots := 0, locals := 0 } : Room) s0 m #[(.ref ob)] below meth c s₁ [] 0 0 := Stand.of_body Bd
  have e0 : s₁.heap = h0 := by rw [← hh, Bd.state]; rfl
  have N0 := Fr.nil n0
  have pre0 : ∀ t, Steps p.tables e below (s₁.setTop (mkF m 0 #[.val (.ref ob)] [])) t → Steps p.tables e below (s₁.setTop (entryFrame m #[(.ref ob)] 1)) t := fun t k => castTop (ef_rm7 m ob) k
  obtain ⟨T1, X1, e1, st1⟩ := getF X0 hx hZ hown (host := "") (Or.inl (hw _ (List.mem_of_getElem? (i := 16) rfl))) Via.refl e0 F_e (g := (mkF m 1 #[.val (.ref ob)] [(.ref ob)])) rfl rfl (hb hby d7_1)
  have pre2 : ∀ t, Steps p.tables e below (T1.setTop (mkF m 4 #[.val (.ref ob)] [(.int E)])) t → Steps p.tables e below (s₁.setTop (entryFrame m #[(.ref ob)] 1)) t := fun t k => by
    refine pre0 t ?_
    show Steps p.tables e below (s₁.setTop (mkF m 0 #[.val (.ref ob)] [])) _
    refine XS.aloadN X0.here hx rfl (hb hby d7_0) rfl rfl ?_
    show Steps p.tables e below (s₁.setTop (mkF m 1 #[.val (.ref ob)] [(.ref ob)])) _
    refine st1 _ ?_
    exact k
  obtain ⟨fs, hrq, hrun, hended, hW, hsame⟩ := X1.leave (v := some (.int E)) (fun h => by rw [Bd.returns] at h; cases h)
  refine ⟨_, _, pre2 _ ?_, hrun, hended, _, _, rfl, ?_, ⟨_, rfl⟩, hW, hsame.mono (by decide) (by decide)⟩
  · show Steps p.tables e below (T1.setTop (mkF m 4 #[.val (.ref ob)] [(.int E)])) _
    exact retI X1 hx Bd.returns (hb hby d7_4) hrq
  · show Q7 Z ob E h0 n0 _ T1.heap _
    rw [e1]
    exact ⟨rfl, N0, rfl⟩
theorem d6_0 : decode prog_18_method_4_code 0 = .ok (.aload_n 0, 1) := by decide +kernel
theorem d6_1 : decode prog_18_method_4_code 1 = .ok (.iload_n 1, 1) := by decide +kernel
theorem d6_2 : decode prog_18_method_4_code 2 = .ok (.putfield 7, 3) := by decide +kernel
theorem d6_5 : decode prog_18_method_4_code 5 = .ok (.aload_n 0, 1) := by decide +kernel
theorem d6_6 : decode prog_18_method_4_code 6 = .ok (.getfield 7, 3) := by decide +kernel
theorem d6_9 : decode prog_18_method_4_code 9 = .ok (.aload_n 0, 1) := by decide +kernel
theorem d6_10 : decode prog_18_method_4_code 10 = .ok (.getfield 22, 3) := by decide +kernel
theorem d6_13 : decode prog_18_method_4_code 13 = .ok (.if_icmp .le 8, 3) := by decide +kernel
theorem d6_16 : decode prog_18_method_4_code 16 = .ok (.aload_n 0, 1) := by decide +kernel
theorem d6_17 : decode prog_18_method_4_code 17 = .ok (.iconst 0, 1) := by decide +kernel
theorem d6_18 : decode prog_18_method_4_code 18 = .ok (.putfield 22, 3) := by decide +kernel
theorem d6_21 : decode prog_18_method_4_code 21 = .ok (.return_, 1) := by decide +kernel
theorem ef_rm6 (m : MethodId) (x0 : Addr) (x1 : Int32) : entryFrame m #[(.ref x0), (.int x1)] 2 = mkF m 0 #[.val (.ref x0), .val (.int x1)] [] := by first | (simp [entryFrame, mkF, argsToLocals, Value.category]; done) | rfl
def Q6 (Z : State) (ob : Addr) (p1 : Int32) (E A : Int32) (h0 : Heap) (n0 : Nat) (v : Option Value) (h : Heap) (L : List Loc) : Prop := v = none ∧ Fr n0 L ∧ Keep h0 h [ob] ∧ Exa Z h ob "com/example/depthwire/depthwire/InboundSeqNums" ∧ Fld Z h ob "com/example/depthwire/depthwire/InboundSeqNums" "expected" "I" (.int p1) ∧ Fld Z h ob "com/example/depthwire/depthwire/InboundSeqNums" "askedUpTo" "I" (.int (if A < p1 then (0 : Int32) else A))
set_option maxRecDepth 65536 in
set_option maxHeartbeats 40000000 in
theorem rm6 (l : Launch) (Z : State) (a0 : Array Value) (hw : ∀ d ∈ tables_1, d.before a0 Z = true) (ws : List Jvm.Cond) (ob : Addr) (p1 : Int32) (E A : Int32) (h0 : Heap) (n0 : Nat) (Z0 : n0 ≤ h0.size) (E_ob : Exa Z h0 ob "com/example/depthwire/depthwire/InboundSeqNums") (F_e : Fld Z h0 ob "com/example/depthwire/depthwire/InboundSeqNums" "expected" "I" (.int E)) (F_a : Fld Z h0 ob "com/example/depthwire/depthwire/InboundSeqNums" "askedUpTo" "I" (.int A)) (g_ob : n0 ≤ ob) :
    MetFree l (⟨"com/example/depthwire/depthwire/InboundSeqNums", "moveTo", "(I)V"⟩ : MethodName) (head1 (Jvm.Cond.code (⟨"com/example/depthwire/depthwire/InboundSeqNums", "moveTo", "(I)V"⟩ : MethodName) prog_18_method_4_code 2 none :: ws) ({ frames := 0, cells := 0, slots := 0, locals := 0 } : Room)) (fun a U => a = #[(.ref ob), (.int p1)] ∧ Z.Warmed39 U.vm ∧ U.heap = h0) (fun _ _ _ _ _ => True) (fun _ U o U' => ∃ v L, o = .returned v ∧ Q6 Z ob p1 E A h0 n0 v U'.heap L ∧ FrameEnd U o U' L ({ frames := 0, cells := 0, slots := 0, locals := 0 } : Room).cells ({ frames := 0, cells := 0, slots := 0, locals := 0 } : Room).slots) := by
  refine MetFree.of_bodySF (plainFor_of_name pn_0) hisR ?_
  intro p e s0 m args below meth c s₁ Bd hml0 hP hK
  obtain ⟨rfl, hZ, hh⟩ := hP
  have hx := Bd.exec
  have hby := Bd.bytes
  have hml : c.maxLocals = 2 := hml0
  have hown : s0.vm.findClass "com/example/depthwire/depthwire/InboundSeqNums" = some m.cls := findClass_of_methodNamed Bd.named
  have hnm := (name_of_methodNamed Bd.named Bd.method).1
  have X0 : Stand p l e ({ frames := 0, cells := 0, slots := 0, locals := 0 } : Room) s0 m #[(.ref ob), (.int p1)] below meth c s₁ [] 0 0 := Stand.of_body Bd
  have e0 : s₁.heap = h0 := by rw [← hh, Bd.state]; rfl
  have N0 := Fr.nil n0
  have pre0 : ∀ t, Steps p.tables e below (s₁.setTop (mkF m 0 #[.val (.ref ob), .val (.int p1)] [])) t → Steps p.tables e below (s₁.setTop (entryFrame m #[(.ref ob), (.int p1)] 2)) t := fun t k => castTop (ef_rm6 m ob p1) k
  obtain ⟨T1, h1, X1, e1, W1, st1⟩ := putF X0 hx hZ hown (host := "") (Or.inl (hw _ (List.mem_of_getElem? (i := 16) rfl))) Via.refl e0 F_e E_ob (Or.inl (hw _ (List.mem_of_getElem? (i := 17) rfl))) (hw _ (List.mem_of_getElem? (i := 8) rfl)) (ty := .int) (by decide) rfl rfl (g := (mkF m 2 #[.val (.ref ob), .val (.int p1)] [(.int p1), (.ref ob)])) rfl rfl (hb hby d6_2)
  have Fw1 : Fld Z h1 ob "com/example/depthwire/depthwire/InboundSeqNums" "expected" "I" (.int p1) := F_e.same W1
  have Z2 : n0 ≤ h1.size := Nat.le_trans Z0 (Keep.of_wr W1).1
  have K1 : Keep h0 h1 [ob] := (Keep.refl h0 [ob]).wr W1 (Or.inl (List.mem_of_getElem? (i := 0) rfl))
  have N1 := Fr.snoc X1 N0 g_ob
  obtain ⟨T3, X3, e3, st3⟩ := getF X1 hx hZ hown (host := "") (Or.inl (hw _ (List.mem_of_getElem? (i := 16) rfl))) Via.refl e1 Fw1 (g := (mkF m 6 #[.val (.ref ob), .val (.int p1)] [(.ref ob)])) rfl rfl (hb hby d6_6)
  have c4 : Fld Z h1 ob "com/example/depthwire/depthwire/InboundSeqNums" "askedUpTo" "I" (.int A) := (F_a.other W1 (Or.inr (slot_ne (a0 := a0) (Or.inl (hw _ (List.mem_of_getElem? (i := 24) rfl))) (Or.inl (hw _ (List.mem_of_getElem? (i := 17) rfl))) (by decide) (t := .int) (t' := .int) (by decide) (by decide))))
  obtain ⟨T5, X5, e5, st5⟩ := getF X3 hx hZ hown (host := "") (Or.inl (hw _ (List.mem_of_getElem? (i := 23) rfl))) Via.refl e3 c4 (g := (mkF m 10 #[.val (.ref ob), .val (.int p1)] [(.ref ob), (.int p1)])) rfl rfl (hb hby d6_10)
  have pre6 : ∀ t, Steps p.tables e below (T5.setTop (mkF m 13 #[.val (.ref ob), .val (.int p1)] [(.int A), (.int p1)])) t → Steps p.tables e below (s₁.setTop (entryFrame m #[(.ref ob), (.int p1)] 2)) t := fun t k => by
    refine pre0 t ?_
    show Steps p.tables e below (s₁.setTop (mkF m 0 #[.val (.ref ob), .val (.int p1)] [])) _
    refine XS.aloadN X0.here hx rfl (hb hby d6_0) rfl rfl ?_
    show Steps p.tables e below (s₁.setTop (mkF m 1 #[.val (.ref ob), .val (.int p1)] [(.ref ob)])) _
    refine XS.iloadN X0.here hx rfl (hb hby d6_1) rfl ?_
    show Steps p.tables e below (s₁.setTop (mkF m 2 #[.val (.ref ob), .val (.int p1)] [(.int p1), (.ref ob)])) _
    refine st1 _ ?_
    show Steps p.tables e below (T1.setTop (mkF m 5 #[.val (.ref ob), .val (.int p1)] [])) _
    refine XS.aloadN X1.here hx rfl (hb hby d6_5) rfl rfl ?_
    show Steps p.tables e below (T1.setTop (mkF m 6 #[.val (.ref ob), .val (.int p1)] [(.ref ob)])) _
    refine st3 _ ?_
    show Steps p.tables e below (T3.setTop (mkF m 9 #[.val (.ref ob), .val (.int p1)] [(.int p1)])) _
    refine XS.aloadN X3.here hx rfl (hb hby d6_9) rfl rfl ?_
    show Steps p.tables e below (T3.setTop (mkF m 10 #[.val (.ref ob), .val (.int p1)] [(.ref ob), (.int p1)])) _
    refine st5 _ ?_
    exact k
  by_cases hc13_7 : A < p1
  · have c8 : Exa Z h1 ob "com/example/depthwire/depthwire/InboundSeqNums" := (E_ob.wr W1)
    obtain ⟨T9, h9, X9, e9, W9, st9⟩ := putF X5 hx hZ hown (host := "") (Or.inl (hw _ (List.mem_of_getElem? (i := 23) rfl))) Via.refl e5 c4 c8 (Or.inl (hw _ (List.mem_of_getElem? (i := 24) rfl))) (hw _ (List.mem_of_getElem? (i := 8) rfl)) (ty := .int) (by decide) rfl rfl (g := (mkF m 18 #[.val (.ref ob), .val (.int p1)] [(.int (0 : Int32)), (.ref ob)])) rfl rfl (hb hby d6_18)
    have Fw9 : Fld Z h9 ob "com/example/depthwire/depthwire/InboundSeqNums" "askedUpTo" "I" (.int (0 : Int32)) := c4.same W9
    have Z10 : n0 ≤ h9.size := Nat.le_trans Z2 (Keep.of_wr W9).1
    have K9 : Keep h0 h9 [ob] := K1.wr W9 (Or.inl (List.mem_of_getElem? (i := 0) rfl))
    have N9 := Fr.snoc X9 N1 g_ob
    have pre11 : ∀ t, Steps p.tables e below (T9.setTop (mkF m 21 #[.val (.ref ob), .val (.int p1)] [])) t → Steps p.tables e below (s₁.setTop (entryFrame m #[(.ref ob), (.int p1)] 2)) t := fun t k => by
      refine pre6 t ?_
      show Steps p.tables e below (T5.setTop (mkF m 13 #[.val (.ref ob), .val (.int p1)] [(.int A), (.int p1)])) _
      refine XS.icmpNo X5.here hx rfl (hb hby d6_13) rfl (tlt hc13_7).2.2.2 ?_
      show Steps p.tables e below (T5.setTop (mkF m 16 #[.val (.ref ob), .val (.int p1)] [])) _
      refine XS.aloadN X5.here hx rfl (hb hby d6_16) rfl rfl ?_
      show Steps p.tables e below (T5.setTop (mkF m 17 #[.val (.ref ob), .val (.int p1)] [(.ref ob)])) _
      refine XS.iconst X5.here hx rfl (hb hby d6_17) ?_
      show Steps p.tables e below (T5.setTop (mkF m 18 #[.val (.ref ob), .val (.int p1)] [(.int (0 : Int32)), (.ref ob)])) _
      refine st9 _ ?_
      exact k
    obtain ⟨fs, hrq, hrun, hended, hW, hsame⟩ := X9.leave (v := none) (fun _ => rfl)
    refine ⟨_, _, pre11 _ ?_, hrun, hended, _, _, rfl, ?_, ⟨_, rfl⟩, hW, hsame.mono (by decide) (by decide)⟩
    · show Steps p.tables e below (T9.setTop (mkF m 21 #[.val (.ref ob), .val (.int p1)] [])) _
      exact X9.returnOut hx Bd.returns (hb hby d6_21) hrq
    · show Q6 Z ob p1 E A h0 n0 _ T9.heap _
      rw [e9]
      have c12 : Exa Z h9 ob "com/example/depthwire/depthwire/InboundSeqNums" := (c8.wr W9)
      have c13 : Fld Z h9 ob "com/example/depthwire/depthwire/InboundSeqNums" "expected" "I" (.int p1) := (Fw1.other W9 (Or.inr (slot_ne (a0 := a0) (Or.inl (hw _ (List.mem_of_getElem? (i := 17) rfl))) (Or.inl (hw _ (List.mem_of_getElem? (i := 24) rfl))) (by decide) (t := .int) (t' := .int) (by decide) (by decide))))
      exact ⟨rfl, N9, K9, c12, c13, by rw [if_pos hc13_7]; exact Fw9⟩
  · have pre14 : ∀ t, Steps p.tables e below (T5.setTop (mkF m 21 #[.val (.ref ob), .val (.int p1)] [])) t → Steps p.tables e below (s₁.setTop (entryFrame m #[(.ref ob), (.int p1)] 2)) t := fun t k => by
      refine pre6 t ?_
      show Steps p.tables e below (T5.setTop (mkF m 13 #[.val (.ref ob), .val (.int p1)] [(.int A), (.int p1)])) _
      refine XS.icmpYes X5.here hx rfl (pc0 := 13) (pc' := 21) rfl (hb hby d6_13) rfl (flt hc13_7).2.2.2 (by decide) (by decide) ?_
      exact k
    obtain ⟨fs, hrq, hrun, hended, hW, hsame⟩ := X5.leave (v := none) (fun _ => rfl)
    refine ⟨_, _, pre14 _ ?_, hrun, hended, _, _, rfl, ?_, ⟨_, rfl⟩, hW, hsame.mono (by decide) (by decide)⟩
    · show Steps p.tables e below (T5.setTop (mkF m 21 #[.val (.ref ob), .val (.int p1)] [])) _
      exact X5.returnOut hx Bd.returns (hb hby d6_21) hrq
    · show Q6 Z ob p1 E A h0 n0 _ T5.heap _
      rw [e5]
      have c15 : Exa Z h1 ob "com/example/depthwire/depthwire/InboundSeqNums" := (E_ob.wr W1)
      exact ⟨rfl, N1, K1, c15, Fw1, by rw [if_neg hc13_7]; exact c4⟩
theorem pd_0 : parseMethodDescriptor "(II)I" = some ⟨[.int, .int], some .int⟩ := by decide +kernel
theorem d5_0 : decode prog_18_method_3_code 0 = .ok (.iload_n 1, 1) := by decide +kernel
theorem d5_1 : decode prog_18_method_3_code 1 = .ok (.aload_n 0, 1) := by decide +kernel
theorem d5_2 : decode prog_18_method_3_code 2 = .ok (.getfield 7, 3) := by decide +kernel
theorem d5_5 : decode prog_18_method_3_code 5 = .ok (.if_icmp .ge 17, 3) := by decide +kernel
theorem d5_22 : decode prog_18_method_3_code 22 = .ok (.iload_n 1, 1) := by decide +kernel
theorem d5_23 : decode prog_18_method_3_code 23 = .ok (.aload_n 0, 1) := by decide +kernel
theorem d5_24 : decode prog_18_method_3_code 24 = .ok (.getfield 7, 3) := by decide +kernel
theorem d5_27 : decode prog_18_method_3_code 27 = .ok (.if_icmp .le 42, 3) := by decide +kernel
theorem d5_30 : decode prog_18_method_3_code 30 = .ok (.aload_n 0, 1) := by decide +kernel
theorem d5_31 : decode prog_18_method_3_code 31 = .ok (.getfield 22, 3) := by decide +kernel
theorem d5_34 : decode prog_18_method_3_code 34 = .ok (.ifCond .le 7, 3) := by decide +kernel
theorem d5_37 : decode prog_18_method_3_code 37 = .ok (.iconst 1, 1) := by decide +kernel
theorem d5_38 : decode prog_18_method_3_code 38 = .ok (.goto 4, 3) := by decide +kernel
theorem d5_41 : decode prog_18_method_3_code 41 = .ok (.iconst 0, 1) := by decide +kernel
theorem d5_42 : decode prog_18_method_3_code 42 = .ok (.istore_n 3, 1) := by decide +kernel
theorem d5_43 : decode prog_18_method_3_code 43 = .ok (.aload_n 0, 1) := by decide +kernel
theorem d5_44 : decode prog_18_method_3_code 44 = .ok (.aload_n 0, 1) := by decide +kernel
theorem d5_45 : decode prog_18_method_3_code 45 = .ok (.getfield 22, 3) := by decide +kernel
theorem d5_48 : decode prog_18_method_3_code 48 = .ok (.iload_n 1, 1) := by decide +kernel
theorem d5_49 : decode prog_18_method_3_code 49 = .ok (.invokestatic 25, 3) := by decide +kernel
theorem d5_52 : decode prog_18_method_3_code 52 = .ok (.putfield 22, 3) := by decide +kernel
theorem d5_55 : decode prog_18_method_3_code 55 = .ok (.iload_n 3, 1) := by decide +kernel
theorem d5_56 : decode prog_18_method_3_code 56 = .ok (.ifCond .eq 9, 3) := by decide +kernel
theorem d5_59 : decode prog_18_method_3_code 59 = .ok (.getstatic 31, 3) := by decide +kernel
theorem d5_62 : decode prog_18_method_3_code 62 = .ok (.goto 6, 3) := by decide +kernel
theorem d5_65 : decode prog_18_method_3_code 65 = .ok (.getstatic 34, 3) := by decide +kernel
theorem d5_68 : decode prog_18_method_3_code 68 = .ok (.areturn, 1) := by decide +kernel
theorem ef_rm5 (m : MethodId) (x0 : Addr) (x1 : Int32) (x2 : Int32) : entryFrame m #[(.ref x0), (.int x1), (.int x2)] 4 = mkF m 0 #[.val (.ref x0), .val (.int x1), .val (.int x2), .unset] [] := by first | (simp [entryFrame, mkF, argsToLocals, Value.category]; done) | rfl
def Q5 (Z : State) (ob : Addr) (p1 : Int32) (p2 : Int32) (E A : Int32) (ug ua r : Addr) (h0 : Heap) (n0 : Nat) (v : Option Value) (h : Heap) (L : List Loc) : Prop := v = some (.ref r) ∧ Fr n0 L ∧ Keep h0 h [ob] ∧ Exa Z h ob "com/example/depthwire/depthwire/InboundSeqNums" ∧ Fld Z h ob "com/example/depthwire/depthwire/InboundSeqNums" "expected" "I" (.int E) ∧ Fld Z h ob "com/example/depthwire/depthwire/InboundSeqNums" "askedUpTo" "I" (.int (if A < p1 then p1 else A))
set_option maxRecDepth 65536 in
set_option maxHeartbeats 40000000 in
theorem rm5 (l : Launch) (Z : State) (a0 : Array Value) (hw : ∀ d ∈ tables_1, d.before a0 Z = true) (ws : List Jvm.Cond) (ob : Addr) (p1 : Int32) (p2 : Int32) (E A : Int32) (ug ua r : Addr) (h0 : Heap) (n0 : Nat) (Z0 : n0 ≤ h0.size) (E_ob : Exa Z h0 ob "com/example/depthwire/depthwire/InboundSeqNums") (F_e : Fld Z h0 ob "com/example/depthwire/depthwire/InboundSeqNums" "expected" "I" (.int E)) (F_a : Fld Z h0 ob "com/example/depthwire/depthwire/InboundSeqNums" "askedUpTo" "I" (.int A)) (g_ob : n0 ≤ ob) (S_g : Sta Z h0 "com/example/depthwire/depthwire/InboundSeqNums$Verdict" "GAP" "Lcom/example/depthwire/depthwire/InboundSeqNums$Verdict;" (.ref ug)) (S_a : Sta Z h0 "com/example/depthwire/depthwire/InboundSeqNums$Verdict" "GAP_ASKED" "Lcom/example/depthwire/depthwire/InboundSeqNums$Verdict;" (.ref ua)) (hn : E < p1) (hr : (if (0 : Int32) < A then ua else ug) = r) :
    MetFree l (⟨"com/example/depthwire/depthwire/InboundSeqNums", "receive", "(IZ)Lcom/example/depthwire/depthwire/InboundSeqNums$Verdict;"⟩ : MethodName) (head1 (Jvm.Cond.code (⟨"com/example/depthwire/depthwire/InboundSeqNums", "receive", "(IZ)Lcom/example/depthwire/depthwire/InboundSeqNums$Verdict;"⟩ : MethodName) prog_18_method_3_code 4 (some (.object "com/example/depthwire/depthwire/InboundSeqNums$Verdict")) :: ws) ({ frames := 1, cells := 0, slots := 0, locals := 14 } : Room)) (fun a U => a = #[(.ref ob), (.int p1), (.int p2)] ∧ Z.Warmed39 U.vm ∧ U.heap = h0) (fun _ _ _ _ _ => True) (fun _ U o U' => ∃ v L, o = .returned v ∧ Q5 Z ob p1 p2 E A ug ua r h0 n0 v U'.heap L ∧ FrameEnd U o U' L ({ frames := 1, cells := 0, slots := 0, locals := 14 } : Room).cells ({ frames := 1, cells := 0, slots := 0, locals := 14 } : Room).slots) := by
  refine MetFree.of_bodySF (plainFor_of_name pn_0) hisR ?_
  intro p e s0 m args below meth c s₁ Bd hml0 hP hK
  obtain ⟨rfl, hZ, hh⟩ := hP
  have hx := Bd.exec
  have hby := Bd.bytes
  have hml : c.maxLocals = 4 := hml0
  have hown : s0.vm.findClass "com/example/depthwire/depthwire/InboundSeqNums" = some m.cls := findClass_of_methodNamed Bd.named
  have hnm := (name_of_methodNamed Bd.named Bd.method).1
  have X0 : Stand p l e ({ frames := 1, cells := 0, slots := 0, locals := 14 } : Room) s0 m #[(.ref ob), (.int p1), (.int p2)] below meth c s₁ [] 0 0 := Stand.of_body Bd
  have e0 : s₁.heap = h0 := by rw [← hh, Bd.state]; rfl
  have N0 := Fr.nil n0
  have pre0 : ∀ t, Steps p.tables e below (s₁.setTop (mkF m 0 #[.val (.ref ob), .val (.int p1), .val (.int p2), .unset] [])) t → Steps p.tables e below (s₁.setTop (entryFrame m #[(.ref ob), (.int p1), (.int p2)] 4)) t := fun t k => castTop (ef_rm5 m ob p1 p2) k
  obtain ⟨T1, X1, e1, st1⟩ := getF X0 hx hZ hown (host := "") (Or.inl (hw _ (List.mem_of_getElem? (i := 16) rfl))) Via.refl e0 F_e (g := (mkF m 2 #[.val (.ref ob), .val (.int p1), .val (.int p2), .unset] [(.ref ob), (.int p1)])) rfl rfl (hb hby d5_2)
  obtain ⟨T2, X2, e2, st2⟩ := getF X1 hx hZ hown (host := "") (Or.inl (hw _ (List.mem_of_getElem? (i := 16) rfl))) Via.refl e1 F_e (g := (mkF m 24 #[.val (.ref ob), .val (.int p1), .val (.int p2), .unset] [(.ref ob), (.int p1)])) rfl rfl (hb hby d5_24)
  obtain ⟨T3, X3, e3, st3⟩ := getF X2 hx hZ hown (host := "") (Or.inl (hw _ (List.mem_of_getElem? (i := 23) rfl))) Via.refl e2 F_a (g := (mkF m 31 #[.val (.ref ob), .val (.int p1), .val (.int p2), .unset] [(.ref ob)])) rfl rfl (hb hby d5_31)
  have pre4 : ∀ t, Steps p.tables e below (T3.setTop (mkF m 34 #[.val (.ref ob), .val (.int p1), .val (.int p2), .unset] [(.int A)])) t → Steps p.tables e below (s₁.setTop (entryFrame m #[(.ref ob), (.int p1), (.int p2)] 4)) t := fun t k => by
    refine pre0 t ?_
    show Steps p.tables e below (s₁.setTop (mkF m 0 #[.val (.ref ob), .val (.int p1), .val (.int p2), .unset] [])) _
    refine XS.iloadN X0.here hx rfl (hb hby d5_0) rfl ?_
    show Steps p.tables e below (s₁.setTop (mkF m 1 #[.val (.ref ob), .val (.int p1), .val (.int p2), .unset] [(.int p1)])) _
    refine XS.aloadN X0.here hx rfl (hb hby d5_1) rfl rfl ?_
    show Steps p.tables e below (s₁.setTop (mkF m 2 #[.val (.ref ob), .val (.int p1), .val (.int p2), .unset] [(.ref ob), (.int p1)])) _
    refine st1 _ ?_
    show Steps p.tables e below (T1.setTop (mkF m 5 #[.val (.ref ob), .val (.int p1), .val (.int p2), .unset] [(.int E), (.int p1)])) _
    refine XS.icmpYes X1.here hx rfl (pc0 := 5) (pc' := 22) rfl (hb hby d5_5) rfl (flt (own_asym hn : ¬ (p1 < E))).2.1 (by decide) (by decide) ?_
    show Steps p.tables e below (T1.setTop (mkF m 22 #[.val (.ref ob), .val (.int p1), .val (.int p2), .unset] [])) _
    refine XS.iloadN X1.here hx rfl (hb hby d5_22) rfl ?_
    show Steps p.tables e below (T1.setTop (mkF m 23 #[.val (.ref ob), .val (.int p1), .val (.int p2), .unset] [(.int p1)])) _
    refine XS.aloadN X1.here hx rfl (hb hby d5_23) rfl rfl ?_
    show Steps p.tables e below (T1.setTop (mkF m 24 #[.val (.ref ob), .val (.int p1), .val (.int p2), .unset] [(.ref ob), (.int p1)])) _
    refine st2 _ ?_
    show Steps p.tables e below (T2.setTop (mkF m 27 #[.val (.ref ob), .val (.int p1), .val (.int p2), .unset] [(.int E), (.int p1)])) _
    refine XS.icmpNo X2.here hx rfl (hb hby d5_27) rfl (tlt (hn : E < p1)).2.2.2 ?_
    show Steps p.tables e below (T2.setTop (mkF m 30 #[.val (.ref ob), .val (.int p1), .val (.int p2), .unset] [])) _
    refine XS.aloadN X2.here hx rfl (hb hby d5_30) rfl rfl ?_
    show Steps p.tables e below (T2.setTop (mkF m 31 #[.val (.ref ob), .val (.int p1), .val (.int p2), .unset] [(.ref ob)])) _
    refine st3 _ ?_
    exact k
  by_cases hc34_5 : (0 : Int32) < A
  · obtain ⟨T6, X6, e6, st6⟩ := getF X3 hx hZ hown (host := "") (Or.inl (hw _ (List.mem_of_getElem? (i := 23) rfl))) Via.refl e3 F_a (g := (mkF m 45 #[.val (.ref ob), .val (.int p1), .val (.int p2), .val (.int (1 : Int32))] [(.ref ob), (.ref ob)])) rfl rfl (hb hby d5_45)
    obtain ⟨_, _, ⟨T7, L7, k7, n7⟩, -, X7, ⟨Lc7, hQ7, l7, y7, z7⟩, st7⟩ := Jvm.LawKit.callS X6 hx (y := (⟨"java/lang/Math", "max", "(II)I"⟩ : MethodName)) hown (mvT hZ (hw _ (List.mem_of_getElem? (i := 25) rfl))) (mvT hZ (hw _ (List.mem_of_getElem? (i := 5) rfl))) (mvT hZ (hw _ (List.mem_of_getElem? (i := 2) rfl))) (mvT hZ (hw _ (List.mem_of_getElem? (i := 6) rfl))) (by decide) (backOf (W := 1) (rm2 l Z a0 hw [] A p1 h0 n0 Z0 ) hZ (hw _ (List.mem_of_getElem? (i := 6) rfl)) (hw _ (List.mem_of_getElem? (i := 2) rfl)) (by decide) (by decide)) (g := (mkF m 49 #[.val (.ref ob), .val (.int p1), .val (.int p2), .val (.int (1 : Int32))] [(.int p1), (.int A), (.ref ob)])) rfl (by rw [hml]; rfl) (argsL := [(.int A), (.int p1)]) (rest := [(.ref ob)]) (lenOf pd_0 rfl) rfl (by show 2 * 0 + _ ≤ _; exact Nat.le_of_eq rfl) (hb hby d5_49) (fun _ _ => ⟨rfl, e6, (by decide : 0 + 0 ≤ _), (by decide : 0 + 0 ≤ _)⟩)
    dsimp only [Pt.U, Pt.locs, Pt.cells, Pt.slots] at X7 l7 y7 z7 st7 hQ7
    subst l7 y7 z7
    obtain ⟨rfl, Nq7, hh7⟩ := hQ7
    have N7 := Fr.app N0 Nq7
    have e7 : T7.heap = h0 := hh7
    obtain ⟨T8, h8, X8, e8, W8, st8⟩ := putF X7 hx hZ hown (host := "") (Or.inl (hw _ (List.mem_of_getElem? (i := 23) rfl))) Via.refl e7 F_a E_ob (Or.inl (hw _ (List.mem_of_getElem? (i := 24) rfl))) (hw _ (List.mem_of_getElem? (i := 8) rfl)) (ty := .int) (by decide) rfl rfl (g := (mkF m 52 #[.val (.ref ob), .val (.int p1), .val (.int p2), .val (.int (1 : Int32))] [(.int (if A < p1 then p1 else A)), (.ref ob)])) rfl rfl (hb hby d5_52)
    have Fw8 : Fld Z h8 ob "com/example/depthwire/depthwire/InboundSeqNums" "askedUpTo" "I" (.int (if A < p1 then p1 else A)) := F_a.same W8
    have Z9 : n0 ≤ h8.size := Nat.le_trans Z0 (Keep.of_wr W8).1
    have K8 : Keep h0 h8 [ob] := (Keep.refl h0 [ob]).wr W8 (Or.inl (List.mem_of_getElem? (i := 0) rfl))
    have N8 := Fr.snoc X8 N7 g_ob
    have c10 : Sta Z h8 "com/example/depthwire/depthwire/InboundSeqNums$Verdict" "GAP_ASKED" "Lcom/example/depthwire/depthwire/InboundSeqNums$Verdict;" (.ref ua) := (S_a.wr W8)
    obtain ⟨T11, X11, e11, st11⟩ := getS2 X8 hx hZ hown (host := "") (Or.inl (hw _ (List.mem_of_getElem? (i := 41) rfl))) Via.refl e8 c10 (g := (mkF m 59 #[.val (.ref ob), .val (.int p1), .val (.int p2), .val (.int (1 : Int32))] [])) rfl (hb hby d5_59)
    have pre12 : ∀ t, Steps p.tables e below (T11.setTop (mkF m 68 #[.val (.ref ob), .val (.int p1), .val (.int p2), .val (.int (1 : Int32))] [(.ref ua)])) t → Steps p.tables e below (s₁.setTop (entryFrame m #[(.ref ob), (.int p1), (.int p2)] 4)) t := fun t k => by
      refine pre4 t ?_
      show Steps p.tables e below (T3.setTop (mkF m 34 #[.val (.ref ob), .val (.int p1), .val (.int p2), .unset] [(.int A)])) _
      refine XS.ifNo X3.here hx rfl (hb hby d5_34) rfl ((if0 _ _).trans (tlt hc34_5).2.2.2) ?_
      show Steps p.tables e below (T3.setTop (mkF m 37 #[.val (.ref ob), .val (.int p1), .val (.int p2), .unset] [])) _
      refine XS.iconst X3.here hx rfl (hb hby d5_37) ?_
      show Steps p.tables e below (T3.setTop (mkF m 38 #[.val (.ref ob), .val (.int p1), .val (.int p2), .unset] [(.int (1 : Int32))])) _
      refine XS.goto X3.here hx rfl (pc0 := 38) (pc' := 42) rfl (hb hby d5_38) (by decide) (by decide) ?_
      show Steps p.tables e below (T3.setTop (mkF m 42 #[.val (.ref ob), .val (.int p1), .val (.int p2), .unset] [(.int (1 : Int32))])) _
      refine XS.istoreN X3.here hx rfl (hb hby d5_42) rfl (l' := #[.val (.ref ob), .val (.int p1), .val (.int p2), .val (.int (1 : Int32))]) rfl ?_
      show Steps p.tables e below (T3.setTop (mkF m 43 #[.val (.ref ob), .val (.int p1), .val (.int p2), .val (.int (1 : Int32))] [])) _
      refine XS.aloadN X3.here hx rfl (hb hby d5_43) rfl rfl ?_
      show Steps p.tables e below (T3.setTop (mkF m 44 #[.val (.ref ob), .val (.int p1), .val (.int p2), .val (.int (1 : Int32))] [(.ref ob)])) _
      refine XS.aloadN X3.here hx rfl (hb hby d5_44) rfl rfl ?_
      show Steps p.tables e below (T3.setTop (mkF m 45 #[.val (.ref ob), .val (.int p1), .val (.int p2), .val (.int (1 : Int32))] [(.ref ob), (.ref ob)])) _
      refine st6 _ ?_
      show Steps p.tables e below (T6.setTop (mkF m 48 #[.val (.ref ob), .val (.int p1), .val (.int p2), .val (.int (1 : Int32))] [(.int A), (.ref ob)])) _
      refine XS.iloadN X6.here hx rfl (hb hby d5_48) rfl ?_
      show Steps p.tables e below (T6.setTop (mkF m 49 #[.val (.ref ob), .val (.int p1), .val (.int p2), .val (.int (1 : Int32))] [(.int p1), (.int A), (.ref ob)])) _
      refine st7 _ ?_
      show Steps p.tables e below (T7.setTop (mkF m 52 #[.val (.ref ob), .val (.int p1), .val (.int p2), .val (.int (1 : Int32))] [(.int (if A < p1 then p1 else A)), (.ref ob)])) _
      refine st8 _ ?_
      show Steps p.tables e below (T8.setTop (mkF m 55 #[.val (.ref ob), .val (.int p1), .val (.int p2), .val (.int (1 : Int32))] [])) _
      refine XS.iloadN X8.here hx rfl (hb hby d5_55) rfl ?_
      show Steps p.tables e below (T8.setTop (mkF m 56 #[.val (.ref ob), .val (.int p1), .val (.int p2), .val (.int (1 : Int32))] [(.int (1 : Int32))])) _
      refine XS.ifNo X8.here hx rfl (hb hby d5_56) rfl ((if0 _ _).trans (feq (by decide : ¬ ((1 : Int32) = (0 : Int32)))).1) ?_
      show Steps p.tables e below (T8.setTop (mkF m 59 #[.val (.ref ob), .val (.int p1), .val (.int p2), .val (.int (1 : Int32))] [])) _
      refine st11 _ ?_
      show Steps p.tables e below (T11.setTop (mkF m 62 #[.val (.ref ob), .val (.int p1), .val (.int p2), .val (.int (1 : Int32))] [(.ref ua)])) _
      refine XS.goto X11.here hx rfl (pc0 := 62) (pc' := 68) rfl (hb hby d5_62) (by decide) (by decide) ?_
      exact k
    obtain ⟨fs, hrq, hrun, hended, hW, hsame⟩ := X11.leave (v := some (.ref ua)) (fun h => by rw [Bd.returns] at h; cases h)
    refine ⟨_, _, pre12 _ ?_, hrun, hended, _, _, rfl, ?_, ⟨_, rfl⟩, hW, hsame.mono (by decide) (by decide)⟩
    · show Steps p.tables e below (T11.setTop (mkF m 68 #[.val (.ref ob), .val (.int p1), .val (.int p2), .val (.int (1 : Int32))] [(.ref ua)])) _
      exact retOut X11 hx Bd.returns rfl (Or.inr (Or.inr (Or.inr (Or.inr ⟨rfl, rfl, rfl⟩)))) (hb hby d5_68) hrq
    · show Q5 Z ob p1 p2 E A ug ua r h0 n0 _ T11.heap _
      rw [e11]
      have c13 : Exa Z h8 ob "com/example/depthwire/depthwire/InboundSeqNums" := (E_ob.wr W8)
      have c14 : Fld Z h8 ob "com/example/depthwire/depthwire/InboundSeqNums" "expected" "I" (.int E) := (F_e.other W8 (Or.inr (slot_ne (a0 := a0) (Or.inl (hw _ (List.mem_of_getElem? (i := 17) rfl))) (Or.inl (hw _ (List.mem_of_getElem? (i := 24) rfl))) (by decide) (t := .int) (t' := .int) (by decide) (by decide))))
      exact ⟨by rw [← hr, if_pos hc34_5], N8, K8, c13, c14, Fw8⟩
  · obtain ⟨T15, X15, e15, st15⟩ := getF X3 hx hZ hown (host := "") (Or.inl (hw _ (List.mem_of_getElem? (i := 23) rfl))) Via.refl e3 F_a (g := (mkF m 45 #[.val (.ref ob), .val (.int p1), .val (.int p2), .val (.int (0 : Int32))] [(.ref ob), (.ref ob)])) rfl rfl (hb hby d5_45)
    obtain ⟨_, _, ⟨T16, L16, k16, n16⟩, -, X16, ⟨Lc16, hQ16, l16, y16, z16⟩, st16⟩ := Jvm.LawKit.callS X15 hx (y := (⟨"java/lang/Math", "max", "(II)I"⟩ : MethodName)) hown (mvT hZ (hw _ (List.mem_of_getElem? (i := 25) rfl))) (mvT hZ (hw _ (List.mem_of_getElem? (i := 5) rfl))) (mvT hZ (hw _ (List.mem_of_getElem? (i := 2) rfl))) (mvT hZ (hw _ (List.mem_of_getElem? (i := 6) rfl))) (by decide) (backOf (W := 1) (rm2 l Z a0 hw [] A p1 h0 n0 Z0 ) hZ (hw _ (List.mem_of_getElem? (i := 6) rfl)) (hw _ (List.mem_of_getElem? (i := 2) rfl)) (by decide) (by decide)) (g := (mkF m 49 #[.val (.ref ob), .val (.int p1), .val (.int p2), .val (.int (0 : Int32))] [(.int p1), (.int A), (.ref ob)])) rfl (by rw [hml]; rfl) (argsL := [(.int A), (.int p1)]) (rest := [(.ref ob)]) (lenOf pd_0 rfl) rfl (by show 2 * 0 + _ ≤ _; exact Nat.le_of_eq rfl) (hb hby d5_49) (fun _ _ => ⟨rfl, e15, (by decide : 0 + 0 ≤ _), (by decide : 0 + 0 ≤ _)⟩)
    dsimp only [Pt.U, Pt.locs, Pt.cells, Pt.slots] at X16 l16 y16 z16 st16 hQ16
    subst l16 y16 z16
    obtain ⟨rfl, Nq16, hh16⟩ := hQ16
    have N16 := Fr.app N0 Nq16
    have e16 : T16.heap = h0 := hh16
    obtain ⟨T17, h17, X17, e17, W17, st17⟩ := putF X16 hx hZ hown (host := "") (Or.inl (hw _ (List.mem_of_getElem? (i := 23) rfl))) Via.refl e16 F_a E_ob (Or.inl (hw _ (List.mem_of_getElem? (i := 24) rfl))) (hw _ (List.mem_of_getElem? (i := 8) rfl)) (ty := .int) (by decide) rfl rfl (g := (mkF m 52 #[.val (.ref ob), .val (.int p1), .val (.int p2), .val (.int (0 : Int32))] [(.int (if A < p1 then p1 else A)), (.ref ob)])) rfl rfl (hb hby d5_52)
    have Fw17 : Fld Z h17 ob "com/example/depthwire/depthwire/InboundSeqNums" "askedUpTo" "I" (.int (if A < p1 then p1 else A)) := F_a.same W17
    have Z18 : n0 ≤ h17.size := Nat.le_trans Z0 (Keep.of_wr W17).1
    have K17 : Keep h0 h17 [ob] := (Keep.refl h0 [ob]).wr W17 (Or.inl (List.mem_of_getElem? (i := 0) rfl))
    have N17 := Fr.snoc X17 N16 g_ob
    have c19 : Sta Z h17 "com/example/depthwire/depthwire/InboundSeqNums$Verdict" "GAP" "Lcom/example/depthwire/depthwire/InboundSeqNums$Verdict;" (.ref ug) := (S_g.wr W17)
    obtain ⟨T20, X20, e20, st20⟩ := getS2 X17 hx hZ hown (host := "") (Or.inl (hw _ (List.mem_of_getElem? (i := 26) rfl))) Via.refl e17 c19 (g := (mkF m 65 #[.val (.ref ob), .val (.int p1), .val (.int p2), .val (.int (0 : Int32))] [])) rfl (hb hby d5_65)
    have pre21 : ∀ t, Steps p.tables e below (T20.setTop (mkF m 68 #[.val (.ref ob), .val (.int p1), .val (.int p2), .val (.int (0 : Int32))] [(.ref ug)])) t → Steps p.tables e below (s₁.setTop (entryFrame m #[(.ref ob), (.int p1), (.int p2)] 4)) t := fun t k => by
      refine pre4 t ?_
      show Steps p.tables e below (T3.setTop (mkF m 34 #[.val (.ref ob), .val (.int p1), .val (.int p2), .unset] [(.int A)])) _
      refine XS.ifYes X3.here hx rfl (pc0 := 34) (pc' := 41) rfl (hb hby d5_34) rfl ((if0 _ _).trans (flt hc34_5).2.2.2) (by decide) (by decide) ?_
      show Steps p.tables e below (T3.setTop (mkF m 41 #[.val (.ref ob), .val (.int p1), .val (.int p2), .unset] [])) _
      refine XS.iconst X3.here hx rfl (hb hby d5_41) ?_
      show Steps p.tables e below (T3.setTop (mkF m 42 #[.val (.ref ob), .val (.int p1), .val (.int p2), .unset] [(.int (0 : Int32))])) _
      refine XS.istoreN X3.here hx rfl (hb hby d5_42) rfl (l' := #[.val (.ref ob), .val (.int p1), .val (.int p2), .val (.int (0 : Int32))]) rfl ?_
      show Steps p.tables e below (T3.setTop (mkF m 43 #[.val (.ref ob), .val (.int p1), .val (.int p2), .val (.int (0 : Int32))] [])) _
      refine XS.aloadN X3.here hx rfl (hb hby d5_43) rfl rfl ?_
      show Steps p.tables e below (T3.setTop (mkF m 44 #[.val (.ref ob), .val (.int p1), .val (.int p2), .val (.int (0 : Int32))] [(.ref ob)])) _
      refine XS.aloadN X3.here hx rfl (hb hby d5_44) rfl rfl ?_
      show Steps p.tables e below (T3.setTop (mkF m 45 #[.val (.ref ob), .val (.int p1), .val (.int p2), .val (.int (0 : Int32))] [(.ref ob), (.ref ob)])) _
      refine st15 _ ?_
      show Steps p.tables e below (T15.setTop (mkF m 48 #[.val (.ref ob), .val (.int p1), .val (.int p2), .val (.int (0 : Int32))] [(.int A), (.ref ob)])) _
      refine XS.iloadN X15.here hx rfl (hb hby d5_48) rfl ?_
      show Steps p.tables e below (T15.setTop (mkF m 49 #[.val (.ref ob), .val (.int p1), .val (.int p2), .val (.int (0 : Int32))] [(.int p1), (.int A), (.ref ob)])) _
      refine st16 _ ?_
      show Steps p.tables e below (T16.setTop (mkF m 52 #[.val (.ref ob), .val (.int p1), .val (.int p2), .val (.int (0 : Int32))] [(.int (if A < p1 then p1 else A)), (.ref ob)])) _
      refine st17 _ ?_
      show Steps p.tables e below (T17.setTop (mkF m 55 #[.val (.ref ob), .val (.int p1), .val (.int p2), .val (.int (0 : Int32))] [])) _
      refine XS.iloadN X17.here hx rfl (hb hby d5_55) rfl ?_
      show Steps p.tables e below (T17.setTop (mkF m 56 #[.val (.ref ob), .val (.int p1), .val (.int p2), .val (.int (0 : Int32))] [(.int (0 : Int32))])) _
      refine XS.ifYes X17.here hx rfl (pc0 := 56) (pc' := 65) rfl (hb hby d5_56) rfl ((if0 _ _).trans (teq (by decide : (0 : Int32) = (0 : Int32))).1) (by decide) (by decide) ?_
      show Steps p.tables e below (T17.setTop (mkF m 65 #[.val (.ref ob), .val (.int p1), .val (.int p2), .val (.int (0 : Int32))] [])) _
      refine st20 _ ?_
      exact k
    obtain ⟨fs, hrq, hrun, hended, hW, hsame⟩ := X20.leave (v := some (.ref ug)) (fun h => by rw [Bd.returns] at h; cases h)
    refine ⟨_, _, pre21 _ ?_, hrun, hended, _, _, rfl, ?_, ⟨_, rfl⟩, hW, hsame.mono (by decide) (by decide)⟩
    · show Steps p.tables e below (T20.setTop (mkF m 68 #[.val (.ref ob), .val (.int p1), .val (.int p2), .val (.int (0 : Int32))] [(.ref ug)])) _
      exact retOut X20 hx Bd.returns rfl (Or.inr (Or.inr (Or.inr (Or.inr ⟨rfl, rfl, rfl⟩)))) (hb hby d5_68) hrq
    · show Q5 Z ob p1 p2 E A ug ua r h0 n0 _ T20.heap _
      rw [e20]
      have c22 : Exa Z h17 ob "com/example/depthwire/depthwire/InboundSeqNums" := (E_ob.wr W17)
      have c23 : Fld Z h17 ob "com/example/depthwire/depthwire/InboundSeqNums" "expected" "I" (.int E) := (F_e.other W17 (Or.inr (slot_ne (a0 := a0) (Or.inl (hw _ (List.mem_of_getElem? (i := 17) rfl))) (Or.inl (hw _ (List.mem_of_getElem? (i := 24) rfl))) (by decide) (t := .int) (t' := .int) (by decide) (by decide))))
      exact ⟨by rw [← hr, if_neg hc34_5], N17, K17, c22, c23, Fw17⟩
theorem pd_1 : parseMethodDescriptor "(I)V" = some ⟨[.int], none⟩ := by decide +kernel
theorem pd_2 : parseMethodDescriptor "()I" = some ⟨[], some .int⟩ := by decide +kernel
theorem pd_3 : parseMethodDescriptor "(IZ)Lcom/example/depthwire/depthwire/InboundSeqNums$Verdict;" = some ⟨[.int, .boolean], some (.object "com/example/depthwire/depthwire/InboundSeqNums$Verdict")⟩ := by decide +kernel
theorem ef_rm0 (m : MethodId) (x0 : Int32) (x1 : Int32) (x2 : Int32) (x3 : Int32) : entryFrame m #[(.int x0), (.int x1), (.int x2), (.int x3)] maxLocals = mkF m 0 #[.val (.int x0), .val (.int x1), .val (.int x2), .val (.int x3), .unset, .unset, .unset, .unset, .unset, .unset, .unset, .unset, .unset, .unset, .unset] [] := by first | (simp [entryFrame, mkF, argsToLocals, Value.category, maxLocals]; done) | rfl
theorem pn_1 : plainName "com/example/depthwire/depthwire/InboundSeqNumsMoveToPinLaw" = true := by first | (simp [plainName, overriddenIn]; done) | decide +kernel
def Q0 (Z : State) (p0 : Int32) (p1 : Int32) (p2 : Int32) (p3 : Int32) (ug ua : Addr) (h0 : Heap) (n0 : Nat) (v : Option Value) (h : Heap) (L : List Loc) : Prop := v = some (.int 1) ∧ Fr n0 L
set_option maxRecDepth 65536 in
set_option maxHeartbeats 40000000 in
theorem rm0 (l : Launch) (Z : State) (a0 : Array Value) (hw : ∀ d ∈ tables_1, d.before a0 Z = true) (ws : List Jvm.Cond) (p0 : Int32) (p1 : Int32) (p2 : Int32) (p3 : Int32) (ug ua : Addr) (h0 : Heap) (n0 : Nat) (Z0 : n0 ≤ h0.size) (S_g : Sta Z h0 "com/example/depthwire/depthwire/InboundSeqNums$Verdict" "GAP" "Lcom/example/depthwire/depthwire/InboundSeqNums$Verdict;" (.ref ug)) (S_a : Sta Z h0 "com/example/depthwire/depthwire/InboundSeqNums$Verdict" "GAP_ASKED" "Lcom/example/depthwire/depthwire/InboundSeqNums$Verdict;" (.ref ua)) :
    MetFree l x (head1 (Jvm.Cond.code x code maxLocals ret :: ws) room_1) (fun a U => a = #[(.int p0), (.int p1), (.int p2), (.int p3)] ∧ Z.Warmed39 U.vm ∧ U.heap = h0) (fun _ _ _ _ _ => True) (fun _ U o U' => ∃ v L, o = .returned v ∧ Q0 Z p0 p1 p2 p3 ug ua h0 n0 v U'.heap L ∧ FrameEnd U o U' L room_1.cells room_1.slots) := by
  refine MetFree.of_bodySF (plainFor_of_name pn_1) hisR ?_
  intro p e s0 m args below meth c s₁ Bd hml0 hP hK
  obtain ⟨rfl, hZ, hh⟩ := hP
  have hx := Bd.exec
  have hby := Bd.bytes
  have hml : c.maxLocals = 15 := hml0
  have hown : s0.vm.findClass "com/example/depthwire/depthwire/InboundSeqNumsMoveToPinLaw" = some m.cls := findClass_of_methodNamed Bd.named
  have hnm := (name_of_methodNamed Bd.named Bd.method).1
  have X0 : Stand p l e room_1 s0 m #[(.int p0), (.int p1), (.int p2), (.int p3)] below meth c s₁ [] 0 0 := Stand.of_body Bd
  have e0 : s₁.heap = h0 := by rw [← hh, Bd.state]; rfl
  have N0 := Fr.nil n0
  have pre0 : ∀ t, Steps p.tables e below (s₁.setTop (mkF m 0 #[.val (.int p0), .val (.int p1), .val (.int p2), .val (.int p3), .unset, .unset, .unset, .unset, .unset, .unset, .unset, .unset, .unset, .unset, .unset] [])) t → Steps p.tables e below (s₁.setTop (entryFrame m #[(.int p0), (.int p1), (.int p2), (.int p3)] maxLocals)) t := fun t k => castTop (ef_rm0 m p0 p1 p2 p3) k
  obtain ⟨T1, ee, Lx1, X1, e1, N1, pre1⟩ : ∃ (T1 : State) (ee : Int32) (Lx1 : List Loc), Stand p l e room_1 s0 m #[(.int p0), (.int p1), (.int p2), (.int p3)] below meth c T1 Lx1 0 0 ∧ T1.heap = h0 ∧ Fr n0 Lx1 ∧ (∀ t, Steps p.tables e below (T1.setTop (mkF m 5 #[.val (.int p0), .val (.int p1), .val (.int p2), .val (.int p3), .unset, .unset, .unset, .unset, .unset, .unset, .unset, .unset, .unset, .unset, .unset] [(.int ee)])) t → Steps p.tables e below (s₁.setTop (entryFrame m #[(.int p0), (.int p1), (.int p2), (.int p3)] maxLocals)) t) := by
    obtain ⟨_, _, ⟨T2, L2, k2, n2⟩, -, X2, ⟨Lc2, hQ2, l2, y2, z2⟩, st2⟩ := Jvm.LawKit.callS X0 hx (y := (⟨"java/lang/Math", "min", "(II)I"⟩ : MethodName)) hown (mvT hZ (hw _ (List.mem_of_getElem? (i := 0) rfl))) (mvT hZ (hw _ (List.mem_of_getElem? (i := 1) rfl))) (mvT hZ (hw _ (List.mem_of_getElem? (i := 2) rfl))) (mvT hZ (hw _ (List.mem_of_getElem? (i := 3) rfl))) (by decide) (backOf (W := 0) (rm1 l Z a0 hw [] p0 p1 h0 n0 Z0 ) hZ (hw _ (List.mem_of_getElem? (i := 3) rfl)) (hw _ (List.mem_of_getElem? (i := 2) rfl)) (by decide) (by decide)) (g := (mkF m 2 #[.val (.int p0), .val (.int p1), .val (.int p2), .val (.int p3), .unset, .unset, .unset, .unset, .unset, .unset, .unset, .unset, .unset, .unset, .unset] [(.int p1), (.int p0)])) rfl (by rw [hml]; rfl) (argsL := [(.int p0), (.int p1)]) (rest := []) (lenOf pd_0 rfl) rfl (by show 2 * 0 + _ ≤ _; exact Nat.le_of_eq rfl) (hb hby at_2) (fun _ _ => ⟨rfl, e0, (by decide : 0 + 0 ≤ _), (by decide : 0 + 0 ≤ _)⟩)
    dsimp only [Pt.U, Pt.locs, Pt.cells, Pt.slots] at X2 l2 y2 z2 st2 hQ2
    subst l2 y2 z2
    obtain ⟨rfl, Nq2, hh2⟩ := hQ2
    have N2 := Fr.app N0 Nq2
    have e2 : T2.heap = h0 := hh2
    have pre3 : ∀ t, Steps p.tables e below (T2.setTop (mkF m 5 #[.val (.int p0), .val (.int p1), .val (.int p2), .val (.int p3), .unset, .unset, .unset, .unset, .unset, .unset, .unset, .unset, .unset, .unset, .unset] [(.int (if p1 < p0 then p1 else p0))])) t → Steps p.tables e below (s₁.setTop (entryFrame m #[(.int p0), (.int p1), (.int p2), (.int p3)] maxLocals)) t := fun t k => by
      refine pre0 t ?_
      show Steps p.tables e below (s₁.setTop (mkF m 0 #[.val (.int p0), .val (.int p1), .val (.int p2), .val (.int p3), .unset, .unset, .unset, .unset, .unset, .unset, .unset, .unset, .unset, .unset, .unset] [])) _
      refine XS.iloadN X0.here hx rfl (hb hby at_0) rfl ?_
      show Steps p.tables e below (s₁.setTop (mkF m 1 #[.val (.int p0), .val (.int p1), .val (.int p2), .val (.int p3), .unset, .unset, .unset, .unset, .unset, .unset, .unset, .unset, .unset, .unset, .unset] [(.int p0)])) _
      refine XS.iloadN X0.here hx rfl (hb hby at_1) rfl ?_
      show Steps p.tables e below (s₁.setTop (mkF m 2 #[.val (.int p0), .val (.int p1), .val (.int p2), .val (.int p3), .unset, .unset, .unset, .unset, .unset, .unset, .unset, .unset, .unset, .unset, .unset] [(.int p1), (.int p0)])) _
      refine st2 _ ?_
      exact k
    exact ⟨T2, (if p1 < p0 then p1 else p0), _, X2, e2, N2, pre3⟩
  obtain ⟨T4, wg, Lx4, X4, e4, N4, pre4⟩ : ∃ (T4 : State) (wg : Int32) (Lx4 : List Loc), Stand p l e room_1 s0 m #[(.int p0), (.int p1), (.int p2), (.int p3)] below meth c T4 Lx4 0 0 ∧ T4.heap = h0 ∧ Fr n0 Lx4 ∧ (∀ t, Steps p.tables e below (T4.setTop (mkF m 18 #[.val (.int p0), .val (.int p1), .val (.int p2), .val (.int p3), .val (.int ee), .unset, .unset, .unset, .unset, .unset, .unset, .unset, .unset, .unset, .unset] [(.int wg)])) t → Steps p.tables e below (s₁.setTop (entryFrame m #[(.int p0), (.int p1), (.int p2), (.int p3)] maxLocals)) t) := by
    have pre5 : ∀ t, Steps p.tables e below (T1.setTop (mkF m 10 #[.val (.int p0), .val (.int p1), .val (.int p2), .val (.int p3), .val (.int ee), .unset, .unset, .unset, .unset, .unset, .unset, .unset, .unset, .unset, .unset] [(.int (p3 &&& (1 : Int32)))])) t → Steps p.tables e below (s₁.setTop (entryFrame m #[(.int p0), (.int p1), (.int p2), (.int p3)] maxLocals)) t := fun t k => by
      refine pre1 t ?_
      show Steps p.tables e below (T1.setTop (mkF m 5 #[.val (.int p0), .val (.int p1), .val (.int p2), .val (.int p3), .unset, .unset, .unset, .unset, .unset, .unset, .unset, .unset, .unset, .unset, .unset] [(.int ee)])) _
      refine XS.istore X1.here hx rfl (hb hby at_5) rfl (l' := #[.val (.int p0), .val (.int p1), .val (.int p2), .val (.int p3), .val (.int ee), .unset, .unset, .unset, .unset, .unset, .unset, .unset, .unset, .unset, .unset]) rfl ?_
      show Steps p.tables e below (T1.setTop (mkF m 7 #[.val (.int p0), .val (.int p1), .val (.int p2), .val (.int p3), .val (.int ee), .unset, .unset, .unset, .unset, .unset, .unset, .unset, .unset, .unset, .unset] [])) _
      refine XS.iloadN X1.here hx rfl (hb hby at_7) rfl ?_
      show Steps p.tables e below (T1.setTop (mkF m 8 #[.val (.int p0), .val (.int p1), .val (.int p2), .val (.int p3), .val (.int ee), .unset, .unset, .unset, .unset, .unset, .unset, .unset, .unset, .unset, .unset] [(.int p3)])) _
      refine XS.iconst X1.here hx rfl (hb hby at_8) ?_
      show Steps p.tables e below (T1.setTop (mkF m 9 #[.val (.int p0), .val (.int p1), .val (.int p2), .val (.int p3), .val (.int ee), .unset, .unset, .unset, .unset, .unset, .unset, .unset, .unset, .unset, .unset] [(.int (1 : Int32)), (.int p3)])) _
      refine XS.iand X1.here hx rfl (hb hby at_9) rfl ?_
      exact k
    by_cases hc10_6 : (p3 &&& (1 : Int32)) = (0 : Int32)
    · have pre7 : ∀ t, Steps p.tables e below (T1.setTop (mkF m 18 #[.val (.int p0), .val (.int p1), .val (.int p2), .val (.int p3), .val (.int ee), .unset, .unset, .unset, .unset, .unset, .unset, .unset, .unset, .unset, .unset] [(.int (0 : Int32))])) t → Steps p.tables e below (s₁.setTop (entryFrame m #[(.int p0), (.int p1), (.int p2), (.int p3)] maxLocals)) t := fun t k => by
        refine pre5 t ?_
        show Steps p.tables e below (T1.setTop (mkF m 10 #[.val (.int p0), .val (.int p1), .val (.int p2), .val (.int p3), .val (.int ee), .unset, .unset, .unset, .unset, .unset, .unset, .unset, .unset, .unset, .unset] [(.int (p3 &&& (1 : Int32)))])) _
        refine XS.ifYes X1.here hx rfl (pc0 := 10) (pc' := 17) rfl (hb hby at_10) rfl ((if0 _ _).trans (teq hc10_6).1) (by decide) (by decide) ?_
        show Steps p.tables e below (T1.setTop (mkF m 17 #[.val (.int p0), .val (.int p1), .val (.int p2), .val (.int p3), .val (.int ee), .unset, .unset, .unset, .unset, .unset, .unset, .unset, .unset, .unset, .unset] [])) _
        refine XS.iconst X1.here hx rfl (hb hby at_17) ?_
        exact k
      exact ⟨T1, (0 : Int32), _, X1, e1, N1, pre7⟩
    · have pre8 : ∀ t, Steps p.tables e below (T1.setTop (mkF m 18 #[.val (.int p0), .val (.int p1), .val (.int p2), .val (.int p3), .val (.int ee), .unset, .unset, .unset, .unset, .unset, .unset, .unset, .unset, .unset, .unset] [(.int (1 : Int32))])) t → Steps p.tables e below (s₁.setTop (entryFrame m #[(.int p0), (.int p1), (.int p2), (.int p3)] maxLocals)) t := fun t k => by
        refine pre5 t ?_
        show Steps p.tables e below (T1.setTop (mkF m 10 #[.val (.int p0), .val (.int p1), .val (.int p2), .val (.int p3), .val (.int ee), .unset, .unset, .unset, .unset, .unset, .unset, .unset, .unset, .unset, .unset] [(.int (p3 &&& (1 : Int32)))])) _
        refine XS.ifNo X1.here hx rfl (hb hby at_10) rfl ((if0 _ _).trans (feq hc10_6).1) ?_
        show Steps p.tables e below (T1.setTop (mkF m 13 #[.val (.int p0), .val (.int p1), .val (.int p2), .val (.int p3), .val (.int ee), .unset, .unset, .unset, .unset, .unset, .unset, .unset, .unset, .unset, .unset] [])) _
        refine XS.iconst X1.here hx rfl (hb hby at_13) ?_
        show Steps p.tables e below (T1.setTop (mkF m 14 #[.val (.int p0), .val (.int p1), .val (.int p2), .val (.int p3), .val (.int ee), .unset, .unset, .unset, .unset, .unset, .unset, .unset, .unset, .unset, .unset] [(.int (1 : Int32))])) _
        refine XS.goto X1.here hx rfl (pc0 := 14) (pc' := 18) rfl (hb hby at_14) (by decide) (by decide) ?_
        exact k
      exact ⟨T1, (1 : Int32), _, X1, e1, N1, pre8⟩
  obtain ⟨T9, md, Lx9, X9, e9, N9, pre9⟩ : ∃ (T9 : State) (md : Int32) (Lx9 : List Loc), Stand p l e room_1 s0 m #[(.int p0), (.int p1), (.int p2), (.int p3)] below meth c T9 Lx9 0 0 ∧ T9.heap = h0 ∧ Fr n0 Lx9 ∧ (∀ t, Steps p.tables e below (T9.setTop (mkF m 25 #[.val (.int p0), .val (.int p1), .val (.int p2), .val (.int p3), .val (.int ee), .val (.int wg), .unset, .unset, .unset, .unset, .unset, .unset, .unset, .unset, .unset] [(.int md)])) t → Steps p.tables e below (s₁.setTop (entryFrame m #[(.int p0), (.int p1), (.int p2), (.int p3)] maxLocals)) t) := by
    have pre10 : ∀ t, Steps p.tables e below (T4.setTop (mkF m 25 #[.val (.int p0), .val (.int p1), .val (.int p2), .val (.int p3), .val (.int ee), .val (.int wg), .unset, .unset, .unset, .unset, .unset, .unset, .unset, .unset, .unset] [(.int (((p3.toUInt32 >>> ((1 : Int32) &&& 31).toUInt32).toInt32) &&& (3 : Int32)))])) t → Steps p.tables e below (s₁.setTop (entryFrame m #[(.int p0), (.int p1), (.int p2), (.int p3)] maxLocals)) t := fun t k => by
      refine pre4 t ?_
      show Steps p.tables e below (T4.setTop (mkF m 18 #[.val (.int p0), .val (.int p1), .val (.int p2), .val (.int p3), .val (.int ee), .unset, .unset, .unset, .unset, .unset, .unset, .unset, .unset, .unset, .unset] [(.int wg)])) _
      refine XS.istore X4.here hx rfl (hb hby at_18) rfl (l' := #[.val (.int p0), .val (.int p1), .val (.int p2), .val (.int p3), .val (.int ee), .val (.int wg), .unset, .unset, .unset, .unset, .unset, .unset, .unset, .unset, .unset]) rfl ?_
      show Steps p.tables e below (T4.setTop (mkF m 20 #[.val (.int p0), .val (.int p1), .val (.int p2), .val (.int p3), .val (.int ee), .val (.int wg), .unset, .unset, .unset, .unset, .unset, .unset, .unset, .unset, .unset] [])) _
      refine XS.iloadN X4.here hx rfl (hb hby at_20) rfl ?_
      show Steps p.tables e below (T4.setTop (mkF m 21 #[.val (.int p0), .val (.int p1), .val (.int p2), .val (.int p3), .val (.int ee), .val (.int wg), .unset, .unset, .unset, .unset, .unset, .unset, .unset, .unset, .unset] [(.int p3)])) _
      refine XS.iconst X4.here hx rfl (hb hby at_21) ?_
      show Steps p.tables e below (T4.setTop (mkF m 22 #[.val (.int p0), .val (.int p1), .val (.int p2), .val (.int p3), .val (.int ee), .val (.int wg), .unset, .unset, .unset, .unset, .unset, .unset, .unset, .unset, .unset] [(.int (1 : Int32)), (.int p3)])) _
      refine XS.iushr X4.here hx rfl (hb hby at_22) rfl ?_
      show Steps p.tables e below (T4.setTop (mkF m 23 #[.val (.int p0), .val (.int p1), .val (.int p2), .val (.int p3), .val (.int ee), .val (.int wg), .unset, .unset, .unset, .unset, .unset, .unset, .unset, .unset, .unset] [(.int ((p3.toUInt32 >>> ((1 : Int32) &&& 31).toUInt32).toInt32))])) _
      refine XS.iconst X4.here hx rfl (hb hby at_23) ?_
      show Steps p.tables e below (T4.setTop (mkF m 24 #[.val (.int p0), .val (.int p1), .val (.int p2), .val (.int p3), .val (.int ee), .val (.int wg), .unset, .unset, .unset, .unset, .unset, .unset, .unset, .unset, .unset] [(.int (3 : Int32)), (.int ((p3.toUInt32 >>> ((1 : Int32) &&& 31).toUInt32).toInt32))])) _
      refine XS.iand X4.here hx rfl (hb hby at_24) rfl ?_
      exact k
    exact ⟨T4, (((p3.toUInt32 >>> ((1 : Int32) &&& 31).toUInt32).toInt32) &&& (3 : Int32)), _, X4, e4, N4, pre10⟩
  obtain ⟨T11, ss, Lx11, X11, e11, N11, pre11⟩ : ∃ (T11 : State) (ss : Int32) (Lx11 : List Loc), Stand p l e room_1 s0 m #[(.int p0), (.int p1), (.int p2), (.int p3)] below meth c T11 Lx11 0 0 ∧ T11.heap = h0 ∧ Fr n0 Lx11 ∧ (∀ t, Steps p.tables e below (T11.setTop (mkF m 100 #[.val (.int p0), .val (.int p1), .val (.int p2), .val (.int p3), .val (.int ee), .val (.int wg), .val (.int md), .val (.int ss), .unset, .unset, .unset, .unset, .unset, .unset, .unset] [])) t → Steps p.tables e below (s₁.setTop (entryFrame m #[(.int p0), (.int p1), (.int p2), (.int p3)] maxLocals)) t) := by
    have pre12 : ∀ t, Steps p.tables e below (T9.setTop (mkF m 29 #[.val (.int p0), .val (.int p1), .val (.int p2), .val (.int p3), .val (.int ee), .val (.int wg), .val (.int md), .unset, .unset, .unset, .unset, .unset, .unset, .unset, .unset] [(.int md)])) t → Steps p.tables e below (s₁.setTop (entryFrame m #[(.int p0), (.int p1), (.int p2), (.int p3)] maxLocals)) t := fun t k => by
      refine pre9 t ?_
      show Steps p.tables e below (T9.setTop (mkF m 25 #[.val (.int p0), .val (.int p1), .val (.int p2), .val (.int p3), .val (.int ee), .val (.int wg), .unset, .unset, .unset, .unset, .unset, .unset, .unset, .unset, .unset] [(.int md)])) _
      refine XS.istore X9.here hx rfl (hb hby at_25) rfl (l' := #[.val (.int p0), .val (.int p1), .val (.int p2), .val (.int p3), .val (.int ee), .val (.int wg), .val (.int md), .unset, .unset, .unset, .unset, .unset, .unset, .unset, .unset]) rfl ?_
      show Steps p.tables e below (T9.setTop (mkF m 27 #[.val (.int p0), .val (.int p1), .val (.int p2), .val (.int p3), .val (.int ee), .val (.int wg), .val (.int md), .unset, .unset, .unset, .unset, .unset, .unset, .unset, .unset] [])) _
      refine XS.iload X9.here hx rfl (hb hby at_27) rfl ?_
      exact k
    by_cases hc29_13 : md = (0 : Int32)
    · obtain ⟨_, _, ⟨T14, L14, k14, n14⟩, -, X14, ⟨Lc14, hQ14, l14, y14, z14⟩, st14⟩ := Jvm.LawKit.callS X9 hx (y := (⟨"java/lang/Math", "max", "(II)I"⟩ : MethodName)) hown (mvT hZ (hw _ (List.mem_of_getElem? (i := 4) rfl))) (mvT hZ (hw _ (List.mem_of_getElem? (i := 5) rfl))) (mvT hZ (hw _ (List.mem_of_getElem? (i := 2) rfl))) (mvT hZ (hw _ (List.mem_of_getElem? (i := 6) rfl))) (by decide) (backOf (W := 0) (rm2 l Z a0 hw [] p0 p1 h0 n0 Z0 ) hZ (hw _ (List.mem_of_getElem? (i := 6) rfl)) (hw _ (List.mem_of_getElem? (i := 2) rfl)) (by decide) (by decide)) (g := (mkF m 34 #[.val (.int p0), .val (.int p1), .val (.int p2), .val (.int p3), .val (.int ee), .val (.int wg), .val (.int md), .unset, .unset, .unset, .unset, .unset, .unset, .unset, .unset] [(.int p1), (.int p0)])) rfl (by rw [hml]; rfl) (argsL := [(.int p0), (.int p1)]) (rest := []) (lenOf pd_0 rfl) rfl (by show 2 * 0 + _ ≤ _; exact Nat.le_of_eq rfl) (hb hby at_34) (fun _ _ => ⟨rfl, e9, (by decide : 0 + 0 ≤ _), (by decide : 0 + 0 ≤ _)⟩)
      dsimp only [Pt.U, Pt.locs, Pt.cells, Pt.slots] at X14 l14 y14 z14 st14 hQ14
      subst l14 y14 z14
      obtain ⟨rfl, Nq14, hh14⟩ := hQ14
      have N14 := Fr.app N9 Nq14
      have e14 : T14.heap = h0 := hh14
      have pre15 : ∀ t, Steps p.tables e below (T14.setTop (mkF m 100 #[.val (.int p0), .val (.int p1), .val (.int p2), .val (.int p3), .val (.int ee), .val (.int wg), .val (.int md), .val (.int (if p0 < p1 then p1 else p0)), .unset, .unset, .unset, .unset, .unset, .unset, .unset] [])) t → Steps p.tables e below (s₁.setTop (entryFrame m #[(.int p0), (.int p1), (.int p2), (.int p3)] maxLocals)) t := fun t k => by
        refine pre12 t ?_
        show Steps p.tables e below (T9.setTop (mkF m 29 #[.val (.int p0), .val (.int p1), .val (.int p2), .val (.int p3), .val (.int ee), .val (.int wg), .val (.int md), .unset, .unset, .unset, .unset, .unset, .unset, .unset, .unset] [(.int md)])) _
        refine XS.ifNo X9.here hx rfl (hb hby at_29) rfl ((if0 _ _).trans (teq hc29_13).2) ?_
        show Steps p.tables e below (T9.setTop (mkF m 32 #[.val (.int p0), .val (.int p1), .val (.int p2), .val (.int p3), .val (.int ee), .val (.int wg), .val (.int md), .unset, .unset, .unset, .unset, .unset, .unset, .unset, .unset] [])) _
        refine XS.iloadN X9.here hx rfl (hb hby at_32) rfl ?_
        show Steps p.tables e below (T9.setTop (mkF m 33 #[.val (.int p0), .val (.int p1), .val (.int p2), .val (.int p3), .val (.int ee), .val (.int wg), .val (.int md), .unset, .unset, .unset, .unset, .unset, .unset, .unset, .unset] [(.int p0)])) _
        refine XS.iloadN X9.here hx rfl (hb hby at_33) rfl ?_
        show Steps p.tables e below (T9.setTop (mkF m 34 #[.val (.int p0), .val (.int p1), .val (.int p2), .val (.int p3), .val (.int ee), .val (.int wg), .val (.int md), .unset, .unset, .unset, .unset, .unset, .unset, .unset, .unset] [(.int p1), (.int p0)])) _
        refine st14 _ ?_
        show Steps p.tables e below (T14.setTop (mkF m 37 #[.val (.int p0), .val (.int p1), .val (.int p2), .val (.int p3), .val (.int ee), .val (.int wg), .val (.int md), .unset, .unset, .unset, .unset, .unset, .unset, .unset, .unset] [(.int (if p0 < p1 then p1 else p0))])) _
        refine XS.istore X14.here hx rfl (hb hby at_37) rfl (l' := #[.val (.int p0), .val (.int p1), .val (.int p2), .val (.int p3), .val (.int ee), .val (.int wg), .val (.int md), .val (.int (if p0 < p1 then p1 else p0)), .unset, .unset, .unset, .unset, .unset, .unset, .unset]) rfl ?_
        show Steps p.tables e below (T14.setTop (mkF m 39 #[.val (.int p0), .val (.int p1), .val (.int p2), .val (.int p3), .val (.int ee), .val (.int wg), .val (.int md), .val (.int (if p0 < p1 then p1 else p0)), .unset, .unset, .unset, .unset, .unset, .unset, .unset] [])) _
        refine XS.goto X14.here hx rfl (pc0 := 39) (pc' := 100) rfl (hb hby at_39) (by decide) (by decide) ?_
        exact k
      exact ⟨T14, (if p0 < p1 then p1 else p0), _, X14, e14, N14, pre15⟩
    · have pre16 : ∀ t, Steps p.tables e below (T9.setTop (mkF m 45 #[.val (.int p0), .val (.int p1), .val (.int p2), .val (.int p3), .val (.int ee), .val (.int wg), .val (.int md), .unset, .unset, .unset, .unset, .unset, .unset, .unset, .unset] [(.int (1 : Int32)), (.int md)])) t → Steps p.tables e below (s₁.setTop (entryFrame m #[(.int p0), (.int p1), (.int p2), (.int p3)] maxLocals)) t := fun t k => by
        refine pre12 t ?_
        show Steps p.tables e below (T9.setTop (mkF m 29 #[.val (.int p0), .val (.int p1), .val (.int p2), .val (.int p3), .val (.int ee), .val (.int wg), .val (.int md), .unset, .unset, .unset, .unset, .unset, .unset, .unset, .unset] [(.int md)])) _
        refine XS.ifYes X9.here hx rfl (pc0 := 29) (pc' := 42) rfl (hb hby at_29) rfl ((if0 _ _).trans (feq hc29_13).2) (by decide) (by decide) ?_
        show Steps p.tables e below (T9.setTop (mkF m 42 #[.val (.int p0), .val (.int p1), .val (.int p2), .val (.int p3), .val (.int ee), .val (.int wg), .val (.int md), .unset, .unset, .unset, .unset, .unset, .unset, .unset, .unset] [])) _
        refine XS.iload X9.here hx rfl (hb hby at_42) rfl ?_
        show Steps p.tables e below (T9.setTop (mkF m 44 #[.val (.int p0), .val (.int p1), .val (.int p2), .val (.int p3), .val (.int ee), .val (.int wg), .val (.int md), .unset, .unset, .unset, .unset, .unset, .unset, .unset, .unset] [(.int md)])) _
        refine XS.iconst X9.here hx rfl (hb hby at_44) ?_
        exact k
      by_cases hc45_17 : md = (1 : Int32)
      · have pre18 : ∀ t, Steps p.tables e below (T9.setTop (mkF m 51 #[.val (.int p0), .val (.int p1), .val (.int p2), .val (.int p3), .val (.int ee), .val (.int wg), .val (.int md), .unset, .unset, .unset, .unset, .unset, .unset, .unset, .unset] [(.int ee), (.int p2)])) t → Steps p.tables e below (s₁.setTop (entryFrame m #[(.int p0), (.int p1), (.int p2), (.int p3)] maxLocals)) t := fun t k => by
          refine pre16 t ?_
          show Steps p.tables e below (T9.setTop (mkF m 45 #[.val (.int p0), .val (.int p1), .val (.int p2), .val (.int p3), .val (.int ee), .val (.int wg), .val (.int md), .unset, .unset, .unset, .unset, .unset, .unset, .unset, .unset] [(.int (1 : Int32)), (.int md)])) _
          refine XS.icmpNo X9.here hx rfl (hb hby at_45) rfl (teq hc45_17).2 ?_
          show Steps p.tables e below (T9.setTop (mkF m 48 #[.val (.int p0), .val (.int p1), .val (.int p2), .val (.int p3), .val (.int ee), .val (.int wg), .val (.int md), .unset, .unset, .unset, .unset, .unset, .unset, .unset, .unset] [])) _
          refine XS.iloadN X9.here hx rfl (hb hby at_48) rfl ?_
          show Steps p.tables e below (T9.setTop (mkF m 49 #[.val (.int p0), .val (.int p1), .val (.int p2), .val (.int p3), .val (.int ee), .val (.int wg), .val (.int md), .unset, .unset, .unset, .unset, .unset, .unset, .unset, .unset] [(.int p2)])) _
          refine XS.iload X9.here hx rfl (hb hby at_49) rfl ?_
          exact k
        by_cases hc51_19 : p2 < ee
        · have pre20 : ∀ t, Steps p.tables e below (T9.setTop (mkF m 100 #[.val (.int p0), .val (.int p1), .val (.int p2), .val (.int p3), .val (.int ee), .val (.int wg), .val (.int md), .val (.int ee), .unset, .unset, .unset, .unset, .unset, .unset, .unset] [])) t → Steps p.tables e below (s₁.setTop (entryFrame m #[(.int p0), (.int p1), (.int p2), (.int p3)] maxLocals)) t := fun t k => by
            refine pre18 t ?_
            show Steps p.tables e below (T9.setTop (mkF m 51 #[.val (.int p0), .val (.int p1), .val (.int p2), .val (.int p3), .val (.int ee), .val (.int wg), .val (.int md), .unset, .unset, .unset, .unset, .unset, .unset, .unset, .unset] [(.int ee), (.int p2)])) _
            refine XS.icmpYes X9.here hx rfl (pc0 := 51) (pc' := 58) rfl (hb hby at_51) rfl (tlt hc51_19).1 (by decide) (by decide) ?_
            show Steps p.tables e below (T9.setTop (mkF m 58 #[.val (.int p0), .val (.int p1), .val (.int p2), .val (.int p3), .val (.int ee), .val (.int wg), .val (.int md), .unset, .unset, .unset, .unset, .unset, .unset, .unset, .unset] [])) _
            refine XS.iload X9.here hx rfl (hb hby at_58) rfl ?_
            show Steps p.tables e below (T9.setTop (mkF m 60 #[.val (.int p0), .val (.int p1), .val (.int p2), .val (.int p3), .val (.int ee), .val (.int wg), .val (.int md), .unset, .unset, .unset, .unset, .unset, .unset, .unset, .unset] [(.int ee)])) _
            refine XS.istore X9.here hx rfl (hb hby at_60) rfl (l' := #[.val (.int p0), .val (.int p1), .val (.int p2), .val (.int p3), .val (.int ee), .val (.int wg), .val (.int md), .val (.int ee), .unset, .unset, .unset, .unset, .unset, .unset, .unset]) rfl ?_
            show Steps p.tables e below (T9.setTop (mkF m 62 #[.val (.int p0), .val (.int p1), .val (.int p2), .val (.int p3), .val (.int ee), .val (.int wg), .val (.int md), .val (.int ee), .unset, .unset, .unset, .unset, .unset, .unset, .unset] [])) _
            refine XS.goto X9.here hx rfl (pc0 := 62) (pc' := 100) rfl (hb hby at_62) (by decide) (by decide) ?_
            exact k
          exact ⟨T9, ee, _, X9, e9, N9, pre20⟩
        · have pre21 : ∀ t, Steps p.tables e below (T9.setTop (mkF m 100 #[.val (.int p0), .val (.int p1), .val (.int p2), .val (.int p3), .val (.int ee), .val (.int wg), .val (.int md), .val (.int p2), .unset, .unset, .unset, .unset, .unset, .unset, .unset] [])) t → Steps p.tables e below (s₁.setTop (entryFrame m #[(.int p0), (.int p1), (.int p2), (.int p3)] maxLocals)) t := fun t k => by
            refine pre18 t ?_
            show Steps p.tables e below (T9.setTop (mkF m 51 #[.val (.int p0), .val (.int p1), .val (.int p2), .val (.int p3), .val (.int ee), .val (.int wg), .val (.int md), .unset, .unset, .unset, .unset, .unset, .unset, .unset, .unset] [(.int ee), (.int p2)])) _
            refine XS.icmpNo X9.here hx rfl (hb hby at_51) rfl (flt hc51_19).1 ?_
            show Steps p.tables e below (T9.setTop (mkF m 54 #[.val (.int p0), .val (.int p1), .val (.int p2), .val (.int p3), .val (.int ee), .val (.int wg), .val (.int md), .unset, .unset, .unset, .unset, .unset, .unset, .unset, .unset] [])) _
            refine XS.iloadN X9.here hx rfl (hb hby at_54) rfl ?_
            show Steps p.tables e below (T9.setTop (mkF m 55 #[.val (.int p0), .val (.int p1), .val (.int p2), .val (.int p3), .val (.int ee), .val (.int wg), .val (.int md), .unset, .unset, .unset, .unset, .unset, .unset, .unset, .unset] [(.int p2)])) _
            refine XS.goto X9.here hx rfl (pc0 := 55) (pc' := 60) rfl (hb hby at_55) (by decide) (by decide) ?_
            show Steps p.tables e below (T9.setTop (mkF m 60 #[.val (.int p0), .val (.int p1), .val (.int p2), .val (.int p3), .val (.int ee), .val (.int wg), .val (.int md), .unset, .unset, .unset, .unset, .unset, .unset, .unset, .unset] [(.int p2)])) _
            refine XS.istore X9.here hx rfl (hb hby at_60) rfl (l' := #[.val (.int p0), .val (.int p1), .val (.int p2), .val (.int p3), .val (.int ee), .val (.int wg), .val (.int md), .val (.int p2), .unset, .unset, .unset, .unset, .unset, .unset, .unset]) rfl ?_
            show Steps p.tables e below (T9.setTop (mkF m 62 #[.val (.int p0), .val (.int p1), .val (.int p2), .val (.int p3), .val (.int ee), .val (.int wg), .val (.int md), .val (.int p2), .unset, .unset, .unset, .unset, .unset, .unset, .unset] [])) _
            refine XS.goto X9.here hx rfl (pc0 := 62) (pc' := 100) rfl (hb hby at_62) (by decide) (by decide) ?_
            exact k
          exact ⟨T9, p2, _, X9, e9, N9, pre21⟩
      · have pre22 : ∀ t, Steps p.tables e below (T9.setTop (mkF m 68 #[.val (.int p0), .val (.int p1), .val (.int p2), .val (.int p3), .val (.int ee), .val (.int wg), .val (.int md), .unset, .unset, .unset, .unset, .unset, .unset, .unset, .unset] [(.int (2 : Int32)), (.int md)])) t → Steps p.tables e below (s₁.setTop (entryFrame m #[(.int p0), (.int p1), (.int p2), (.int p3)] maxLocals)) t := fun t k => by
          refine pre16 t ?_
          show Steps p.tables e below (T9.setTop (mkF m 45 #[.val (.int p0), .val (.int p1), .val (.int p2), .val (.int p3), .val (.int ee), .val (.int wg), .val (.int md), .unset, .unset, .unset, .unset, .unset, .unset, .unset, .unset] [(.int (1 : Int32)), (.int md)])) _
          refine XS.icmpYes X9.here hx rfl (pc0 := 45) (pc' := 65) rfl (hb hby at_45) rfl (feq hc45_17).2 (by decide) (by decide) ?_
          show Steps p.tables e below (T9.setTop (mkF m 65 #[.val (.int p0), .val (.int p1), .val (.int p2), .val (.int p3), .val (.int ee), .val (.int wg), .val (.int md), .unset, .unset, .unset, .unset, .unset, .unset, .unset, .unset] [])) _
          refine XS.iload X9.here hx rfl (hb hby at_65) rfl ?_
          show Steps p.tables e below (T9.setTop (mkF m 67 #[.val (.int p0), .val (.int p1), .val (.int p2), .val (.int p3), .val (.int ee), .val (.int wg), .val (.int md), .unset, .unset, .unset, .unset, .unset, .unset, .unset, .unset] [(.int md)])) _
          refine XS.iconst X9.here hx rfl (hb hby at_67) ?_
          exact k
        by_cases hc68_23 : md = (2 : Int32)
        · have pre24 : ∀ t, Steps p.tables e below (T9.setTop (mkF m 74 #[.val (.int p0), .val (.int p1), .val (.int p2), .val (.int p3), .val (.int ee), .val (.int wg), .val (.int md), .unset, .unset, .unset, .unset, .unset, .unset, .unset, .unset] [(.int ee), (.int p2)])) t → Steps p.tables e below (s₁.setTop (entryFrame m #[(.int p0), (.int p1), (.int p2), (.int p3)] maxLocals)) t := fun t k => by
            refine pre22 t ?_
            show Steps p.tables e below (T9.setTop (mkF m 68 #[.val (.int p0), .val (.int p1), .val (.int p2), .val (.int p3), .val (.int ee), .val (.int wg), .val (.int md), .unset, .unset, .unset, .unset, .unset, .unset, .unset, .unset] [(.int (2 : Int32)), (.int md)])) _
            refine XS.icmpNo X9.here hx rfl (hb hby at_68) rfl (teq hc68_23).2 ?_
            show Steps p.tables e below (T9.setTop (mkF m 71 #[.val (.int p0), .val (.int p1), .val (.int p2), .val (.int p3), .val (.int ee), .val (.int wg), .val (.int md), .unset, .unset, .unset, .unset, .unset, .unset, .unset, .unset] [])) _
            refine XS.iloadN X9.here hx rfl (hb hby at_71) rfl ?_
            show Steps p.tables e below (T9.setTop (mkF m 72 #[.val (.int p0), .val (.int p1), .val (.int p2), .val (.int p3), .val (.int ee), .val (.int wg), .val (.int md), .unset, .unset, .unset, .unset, .unset, .unset, .unset, .unset] [(.int p2)])) _
            refine XS.iload X9.here hx rfl (hb hby at_72) rfl ?_
            exact k
          by_cases hc74_25 : p2 < ee
          · have pre26 : ∀ t, Steps p.tables e below (T9.setTop (mkF m 100 #[.val (.int p0), .val (.int p1), .val (.int p2), .val (.int p3), .val (.int ee), .val (.int wg), .val (.int md), .val (.int ee), .unset, .unset, .unset, .unset, .unset, .unset, .unset] [])) t → Steps p.tables e below (s₁.setTop (entryFrame m #[(.int p0), (.int p1), (.int p2), (.int p3)] maxLocals)) t := fun t k => by
              refine pre24 t ?_
              show Steps p.tables e below (T9.setTop (mkF m 74 #[.val (.int p0), .val (.int p1), .val (.int p2), .val (.int p3), .val (.int ee), .val (.int wg), .val (.int md), .unset, .unset, .unset, .unset, .unset, .unset, .unset, .unset] [(.int ee), (.int p2)])) _
              refine XS.icmpYes X9.here hx rfl (pc0 := 74) (pc' := 89) rfl (hb hby at_74) rfl (tlt hc74_25).1 (by decide) (by decide) ?_
              show Steps p.tables e below (T9.setTop (mkF m 89 #[.val (.int p0), .val (.int p1), .val (.int p2), .val (.int p3), .val (.int ee), .val (.int wg), .val (.int md), .unset, .unset, .unset, .unset, .unset, .unset, .unset, .unset] [])) _
              refine XS.iload X9.here hx rfl (hb hby at_89) rfl ?_
              show Steps p.tables e below (T9.setTop (mkF m 91 #[.val (.int p0), .val (.int p1), .val (.int p2), .val (.int p3), .val (.int ee), .val (.int wg), .val (.int md), .unset, .unset, .unset, .unset, .unset, .unset, .unset, .unset] [(.int ee)])) _
              refine XS.istore X9.here hx rfl (hb hby at_91) rfl (l' := #[.val (.int p0), .val (.int p1), .val (.int p2), .val (.int p3), .val (.int ee), .val (.int wg), .val (.int md), .val (.int ee), .unset, .unset, .unset, .unset, .unset, .unset, .unset]) rfl ?_
              show Steps p.tables e below (T9.setTop (mkF m 93 #[.val (.int p0), .val (.int p1), .val (.int p2), .val (.int p3), .val (.int ee), .val (.int wg), .val (.int md), .val (.int ee), .unset, .unset, .unset, .unset, .unset, .unset, .unset] [])) _
              refine XS.goto X9.here hx rfl (pc0 := 93) (pc' := 100) rfl (hb hby at_93) (by decide) (by decide) ?_
              exact k
            exact ⟨T9, ee, _, X9, e9, N9, pre26⟩
          · have pre27 : ∀ t, Steps p.tables e below (T9.setTop (mkF m 80 #[.val (.int p0), .val (.int p1), .val (.int p2), .val (.int p3), .val (.int ee), .val (.int wg), .val (.int md), .unset, .unset, .unset, .unset, .unset, .unset, .unset, .unset] [(.int (2147483647 : Int32)), (.int p2)])) t → Steps p.tables e below (s₁.setTop (entryFrame m #[(.int p0), (.int p1), (.int p2), (.int p3)] maxLocals)) t := fun t k => by
              refine pre24 t ?_
              show Steps p.tables e below (T9.setTop (mkF m 74 #[.val (.int p0), .val (.int p1), .val (.int p2), .val (.int p3), .val (.int ee), .val (.int wg), .val (.int md), .unset, .unset, .unset, .unset, .unset, .unset, .unset, .unset] [(.int ee), (.int p2)])) _
              refine XS.icmpNo X9.here hx rfl (hb hby at_74) rfl (flt hc74_25).1 ?_
              show Steps p.tables e below (T9.setTop (mkF m 77 #[.val (.int p0), .val (.int p1), .val (.int p2), .val (.int p3), .val (.int ee), .val (.int wg), .val (.int md), .unset, .unset, .unset, .unset, .unset, .unset, .unset, .unset] [])) _
              refine XS.iloadN X9.here hx rfl (hb hby at_77) rfl ?_
              show Steps p.tables e below (T9.setTop (mkF m 78 #[.val (.int p0), .val (.int p1), .val (.int p2), .val (.int p3), .val (.int ee), .val (.int wg), .val (.int md), .unset, .unset, .unset, .unset, .unset, .unset, .unset, .unset] [(.int p2)])) _
              refine X9.ldcInt hx hown (mvT hZ (hw _ (List.mem_of_getElem? (i := 40) rfl))) (g := (mkF m 78 #[.val (.int p0), .val (.int p1), .val (.int p2), .val (.int p3), .val (.int ee), .val (.int wg), .val (.int md), .unset, .unset, .unset, .unset, .unset, .unset, .unset, .unset] [(.int p2)])) rfl (hb hby at_78) _ ?_
              exact k
            by_cases hc80_28 : p2 < (2147483647 : Int32)
            · have pre29 : ∀ t, Steps p.tables e below (T9.setTop (mkF m 100 #[.val (.int p0), .val (.int p1), .val (.int p2), .val (.int p3), .val (.int ee), .val (.int wg), .val (.int md), .val (.int (p2 + (1 : Int32))), .unset, .unset, .unset, .unset, .unset, .unset, .unset] [])) t → Steps p.tables e below (s₁.setTop (entryFrame m #[(.int p0), (.int p1), (.int p2), (.int p3)] maxLocals)) t := fun t k => by
                refine pre27 t ?_
                show Steps p.tables e below (T9.setTop (mkF m 80 #[.val (.int p0), .val (.int p1), .val (.int p2), .val (.int p3), .val (.int ee), .val (.int wg), .val (.int md), .unset, .unset, .unset, .unset, .unset, .unset, .unset, .unset] [(.int (2147483647 : Int32)), (.int p2)])) _
                refine XS.icmpNo X9.here hx rfl (hb hby at_80) rfl (tlt hc80_28).2.1 ?_
                show Steps p.tables e below (T9.setTop (mkF m 83 #[.val (.int p0), .val (.int p1), .val (.int p2), .val (.int p3), .val (.int ee), .val (.int wg), .val (.int md), .unset, .unset, .unset, .unset, .unset, .unset, .unset, .unset] [])) _
                refine XS.iloadN X9.here hx rfl (hb hby at_83) rfl ?_
                show Steps p.tables e below (T9.setTop (mkF m 84 #[.val (.int p0), .val (.int p1), .val (.int p2), .val (.int p3), .val (.int ee), .val (.int wg), .val (.int md), .unset, .unset, .unset, .unset, .unset, .unset, .unset, .unset] [(.int p2)])) _
                refine XS.iconst X9.here hx rfl (hb hby at_84) ?_
                show Steps p.tables e below (T9.setTop (mkF m 85 #[.val (.int p0), .val (.int p1), .val (.int p2), .val (.int p3), .val (.int ee), .val (.int wg), .val (.int md), .unset, .unset, .unset, .unset, .unset, .unset, .unset, .unset] [(.int (1 : Int32)), (.int p2)])) _
                refine XS.iadd X9.here hx rfl (hb hby at_85) rfl ?_
                show Steps p.tables e below (T9.setTop (mkF m 86 #[.val (.int p0), .val (.int p1), .val (.int p2), .val (.int p3), .val (.int ee), .val (.int wg), .val (.int md), .unset, .unset, .unset, .unset, .unset, .unset, .unset, .unset] [(.int (p2 + (1 : Int32)))])) _
                refine XS.goto X9.here hx rfl (pc0 := 86) (pc' := 91) rfl (hb hby at_86) (by decide) (by decide) ?_
                show Steps p.tables e below (T9.setTop (mkF m 91 #[.val (.int p0), .val (.int p1), .val (.int p2), .val (.int p3), .val (.int ee), .val (.int wg), .val (.int md), .unset, .unset, .unset, .unset, .unset, .unset, .unset, .unset] [(.int (p2 + (1 : Int32)))])) _
                refine XS.istore X9.here hx rfl (hb hby at_91) rfl (l' := #[.val (.int p0), .val (.int p1), .val (.int p2), .val (.int p3), .val (.int ee), .val (.int wg), .val (.int md), .val (.int (p2 + (1 : Int32))), .unset, .unset, .unset, .unset, .unset, .unset, .unset]) rfl ?_
                show Steps p.tables e below (T9.setTop (mkF m 93 #[.val (.int p0), .val (.int p1), .val (.int p2), .val (.int p3), .val (.int ee), .val (.int wg), .val (.int md), .val (.int (p2 + (1 : Int32))), .unset, .unset, .unset, .unset, .unset, .unset, .unset] [])) _
                refine XS.goto X9.here hx rfl (pc0 := 93) (pc' := 100) rfl (hb hby at_93) (by decide) (by decide) ?_
                exact k
              exact ⟨T9, (p2 + (1 : Int32)), _, X9, e9, N9, pre29⟩
            · have pre30 : ∀ t, Steps p.tables e below (T9.setTop (mkF m 100 #[.val (.int p0), .val (.int p1), .val (.int p2), .val (.int p3), .val (.int ee), .val (.int wg), .val (.int md), .val (.int ee), .unset, .unset, .unset, .unset, .unset, .unset, .unset] [])) t → Steps p.tables e below (s₁.setTop (entryFrame m #[(.int p0), (.int p1), (.int p2), (.int p3)] maxLocals)) t := fun t k => by
                refine pre27 t ?_
                show Steps p.tables e below (T9.setTop (mkF m 80 #[.val (.int p0), .val (.int p1), .val (.int p2), .val (.int p3), .val (.int ee), .val (.int wg), .val (.int md), .unset, .unset, .unset, .unset, .unset, .unset, .unset, .unset] [(.int (2147483647 : Int32)), (.int p2)])) _
                refine XS.icmpYes X9.here hx rfl (pc0 := 80) (pc' := 89) rfl (hb hby at_80) rfl (flt hc80_28).2.1 (by decide) (by decide) ?_
                show Steps p.tables e below (T9.setTop (mkF m 89 #[.val (.int p0), .val (.int p1), .val (.int p2), .val (.int p3), .val (.int ee), .val (.int wg), .val (.int md), .unset, .unset, .unset, .unset, .unset, .unset, .unset, .unset] [])) _
                refine XS.iload X9.here hx rfl (hb hby at_89) rfl ?_
                show Steps p.tables e below (T9.setTop (mkF m 91 #[.val (.int p0), .val (.int p1), .val (.int p2), .val (.int p3), .val (.int ee), .val (.int wg), .val (.int md), .unset, .unset, .unset, .unset, .unset, .unset, .unset, .unset] [(.int ee)])) _
                refine XS.istore X9.here hx rfl (hb hby at_91) rfl (l' := #[.val (.int p0), .val (.int p1), .val (.int p2), .val (.int p3), .val (.int ee), .val (.int wg), .val (.int md), .val (.int ee), .unset, .unset, .unset, .unset, .unset, .unset, .unset]) rfl ?_
                show Steps p.tables e below (T9.setTop (mkF m 93 #[.val (.int p0), .val (.int p1), .val (.int p2), .val (.int p3), .val (.int ee), .val (.int wg), .val (.int md), .val (.int ee), .unset, .unset, .unset, .unset, .unset, .unset, .unset] [])) _
                refine XS.goto X9.here hx rfl (pc0 := 93) (pc' := 100) rfl (hb hby at_93) (by decide) (by decide) ?_
                exact k
              exact ⟨T9, ee, _, X9, e9, N9, pre30⟩
        · have pre31 : ∀ t, Steps p.tables e below (T9.setTop (mkF m 100 #[.val (.int p0), .val (.int p1), .val (.int p2), .val (.int p3), .val (.int ee), .val (.int wg), .val (.int md), .val (.int ee), .unset, .unset, .unset, .unset, .unset, .unset, .unset] [])) t → Steps p.tables e below (s₁.setTop (entryFrame m #[(.int p0), (.int p1), (.int p2), (.int p3)] maxLocals)) t := fun t k => by
            refine pre22 t ?_
            show Steps p.tables e below (T9.setTop (mkF m 68 #[.val (.int p0), .val (.int p1), .val (.int p2), .val (.int p3), .val (.int ee), .val (.int wg), .val (.int md), .unset, .unset, .unset, .unset, .unset, .unset, .unset, .unset] [(.int (2 : Int32)), (.int md)])) _
            refine XS.icmpYes X9.here hx rfl (pc0 := 68) (pc' := 96) rfl (hb hby at_68) rfl (feq hc68_23).2 (by decide) (by decide) ?_
            show Steps p.tables e below (T9.setTop (mkF m 96 #[.val (.int p0), .val (.int p1), .val (.int p2), .val (.int p3), .val (.int ee), .val (.int wg), .val (.int md), .unset, .unset, .unset, .unset, .unset, .unset, .unset, .unset] [])) _
            refine XS.iload X9.here hx rfl (hb hby at_96) rfl ?_
            show Steps p.tables e below (T9.setTop (mkF m 98 #[.val (.int p0), .val (.int p1), .val (.int p2), .val (.int p3), .val (.int ee), .val (.int wg), .val (.int md), .unset, .unset, .unset, .unset, .unset, .unset, .unset, .unset] [(.int ee)])) _
            refine XS.istore X9.here hx rfl (hb hby at_98) rfl (l' := #[.val (.int p0), .val (.int p1), .val (.int p2), .val (.int p3), .val (.int ee), .val (.int wg), .val (.int md), .val (.int ee), .unset, .unset, .unset, .unset, .unset, .unset, .unset]) rfl ?_
            exact k
          exact ⟨T9, ee, _, X9, e9, N9, pre31⟩
  obtain ⟨T32, dg, Lx32, X32, e32, N32, hdg, pre32⟩ : ∃ (T32 : State) (dg : Int32) (Lx32 : List Loc), Stand p l e room_1 s0 m #[(.int p0), (.int p1), (.int p2), (.int p3)] below meth c T32 Lx32 0 0 ∧ T32.heap = h0 ∧ Fr n0 Lx32 ∧ (dg = 0 ∨ (dg = 1 ∧ ee < p2)) ∧ (∀ t, Steps p.tables e below (T32.setTop (mkF m 116 #[.val (.int p0), .val (.int p1), .val (.int p2), .val (.int p3), .val (.int ee), .val (.int wg), .val (.int md), .val (.int ss), .unset, .unset, .unset, .unset, .unset, .unset, .unset] [(.int dg)])) t → Steps p.tables e below (s₁.setTop (entryFrame m #[(.int p0), (.int p1), (.int p2), (.int p3)] maxLocals)) t) := by
    have pre33 : ∀ t, Steps p.tables e below (T11.setTop (mkF m 102 #[.val (.int p0), .val (.int p1), .val (.int p2), .val (.int p3), .val (.int ee), .val (.int wg), .val (.int md), .val (.int ss), .unset, .unset, .unset, .unset, .unset, .unset, .unset] [(.int wg)])) t → Steps p.tables e below (s₁.setTop (entryFrame m #[(.int p0), (.int p1), (.int p2), (.int p3)] maxLocals)) t := fun t k => by
      refine pre11 t ?_
      show Steps p.tables e below (T11.setTop (mkF m 100 #[.val (.int p0), .val (.int p1), .val (.int p2), .val (.int p3), .val (.int ee), .val (.int wg), .val (.int md), .val (.int ss), .unset, .unset, .unset, .unset, .unset, .unset, .unset] [])) _
      refine XS.iload X11.here hx rfl (hb hby at_100) rfl ?_
      exact k
    by_cases hc102_34 : wg = (0 : Int32)
    · have pre35 : ∀ t, Steps p.tables e below (T11.setTop (mkF m 116 #[.val (.int p0), .val (.int p1), .val (.int p2), .val (.int p3), .val (.int ee), .val (.int wg), .val (.int md), .val (.int ss), .unset, .unset, .unset, .unset, .unset, .unset, .unset] [(.int (0 : Int32))])) t → Steps p.tables e below (s₁.setTop (entryFrame m #[(.int p0), (.int p1), (.int p2), (.int p3)] maxLocals)) t := fun t k => by
        refine pre33 t ?_
        show Steps p.tables e below (T11.setTop (mkF m 102 #[.val (.int p0), .val (.int p1), .val (.int p2), .val (.int p3), .val (.int ee), .val (.int wg), .val (.int md), .val (.int ss), .unset, .unset, .unset, .unset, .unset, .unset, .unset] [(.int wg)])) _
        refine XS.ifYes X11.here hx rfl (pc0 := 102) (pc' := 115) rfl (hb hby at_102) rfl ((if0 _ _).trans (teq hc102_34).1) (by decide) (by decide) ?_
        show Steps p.tables e below (T11.setTop (mkF m 115 #[.val (.int p0), .val (.int p1), .val (.int p2), .val (.int p3), .val (.int ee), .val (.int wg), .val (.int md), .val (.int ss), .unset, .unset, .unset, .unset, .unset, .unset, .unset] [])) _
        refine XS.iconst X11.here hx rfl (hb hby at_115) ?_
        exact k
      exact ⟨T11, (0 : Int32), _, X11, e11, N11, (Or.inl rfl), pre35⟩
    · have pre36 : ∀ t, Steps p.tables e below (T11.setTop (mkF m 108 #[.val (.int p0), .val (.int p1), .val (.int p2), .val (.int p3), .val (.int ee), .val (.int wg), .val (.int md), .val (.int ss), .unset, .unset, .unset, .unset, .unset, .unset, .unset] [(.int ee), (.int p2)])) t → Steps p.tables e below (s₁.setTop (entryFrame m #[(.int p0), (.int p1), (.int p2), (.int p3)] maxLocals)) t := fun t k => by
        refine pre33 t ?_
        show Steps p.tables e below (T11.setTop (mkF m 102 #[.val (.int p0), .val (.int p1), .val (.int p2), .val (.int p3), .val (.int ee), .val (.int wg), .val (.int md), .val (.int ss), .unset, .unset, .unset, .unset, .unset, .unset, .unset] [(.int wg)])) _
        refine XS.ifNo X11.here hx rfl (hb hby at_102) rfl ((if0 _ _).trans (feq hc102_34).1) ?_
        show Steps p.tables e below (T11.setTop (mkF m 105 #[.val (.int p0), .val (.int p1), .val (.int p2), .val (.int p3), .val (.int ee), .val (.int wg), .val (.int md), .val (.int ss), .unset, .unset, .unset, .unset, .unset, .unset, .unset] [])) _
        refine XS.iloadN X11.here hx rfl (hb hby at_105) rfl ?_
        show Steps p.tables e below (T11.setTop (mkF m 106 #[.val (.int p0), .val (.int p1), .val (.int p2), .val (.int p3), .val (.int ee), .val (.int wg), .val (.int md), .val (.int ss), .unset, .unset, .unset, .unset, .unset, .unset, .unset] [(.int p2)])) _
        refine XS.iload X11.here hx rfl (hb hby at_106) rfl ?_
        exact k
      by_cases hc108_37 : ee < p2
      · have pre38 : ∀ t, Steps p.tables e below (T11.setTop (mkF m 116 #[.val (.int p0), .val (.int p1), .val (.int p2), .val (.int p3), .val (.int ee), .val (.int wg), .val (.int md), .val (.int ss), .unset, .unset, .unset, .unset, .unset, .unset, .unset] [(.int (1 : Int32))])) t → Steps p.tables e below (s₁.setTop (entryFrame m #[(.int p0), (.int p1), (.int p2), (.int p3)] maxLocals)) t := fun t k => by
          refine pre36 t ?_
          show Steps p.tables e below (T11.setTop (mkF m 108 #[.val (.int p0), .val (.int p1), .val (.int p2), .val (.int p3), .val (.int ee), .val (.int wg), .val (.int md), .val (.int ss), .unset, .unset, .unset, .unset, .unset, .unset, .unset] [(.int ee), (.int p2)])) _
          refine XS.icmpNo X11.here hx rfl (hb hby at_108) rfl (tlt hc108_37).2.2.2 ?_
          show Steps p.tables e below (T11.setTop (mkF m 111 #[.val (.int p0), .val (.int p1), .val (.int p2), .val (.int p3), .val (.int ee), .val (.int wg), .val (.int md), .val (.int ss), .unset, .unset, .unset, .unset, .unset, .unset, .unset] [])) _
          refine XS.iconst X11.here hx rfl (hb hby at_111) ?_
          show Steps p.tables e below (T11.setTop (mkF m 112 #[.val (.int p0), .val (.int p1), .val (.int p2), .val (.int p3), .val (.int ee), .val (.int wg), .val (.int md), .val (.int ss), .unset, .unset, .unset, .unset, .unset, .unset, .unset] [(.int (1 : Int32))])) _
          refine XS.goto X11.here hx rfl (pc0 := 112) (pc' := 116) rfl (hb hby at_112) (by decide) (by decide) ?_
          exact k
        exact ⟨T11, (1 : Int32), _, X11, e11, N11, (Or.inr ⟨rfl, hc108_37⟩), pre38⟩
      · have pre39 : ∀ t, Steps p.tables e below (T11.setTop (mkF m 116 #[.val (.int p0), .val (.int p1), .val (.int p2), .val (.int p3), .val (.int ee), .val (.int wg), .val (.int md), .val (.int ss), .unset, .unset, .unset, .unset, .unset, .unset, .unset] [(.int (0 : Int32))])) t → Steps p.tables e below (s₁.setTop (entryFrame m #[(.int p0), (.int p1), (.int p2), (.int p3)] maxLocals)) t := fun t k => by
          refine pre36 t ?_
          show Steps p.tables e below (T11.setTop (mkF m 108 #[.val (.int p0), .val (.int p1), .val (.int p2), .val (.int p3), .val (.int ee), .val (.int wg), .val (.int md), .val (.int ss), .unset, .unset, .unset, .unset, .unset, .unset, .unset] [(.int ee), (.int p2)])) _
          refine XS.icmpYes X11.here hx rfl (pc0 := 108) (pc' := 115) rfl (hb hby at_108) rfl (flt hc108_37).2.2.2 (by decide) (by decide) ?_
          show Steps p.tables e below (T11.setTop (mkF m 115 #[.val (.int p0), .val (.int p1), .val (.int p2), .val (.int p3), .val (.int ee), .val (.int wg), .val (.int md), .val (.int ss), .unset, .unset, .unset, .unset, .unset, .unset, .unset] [])) _
          refine XS.iconst X11.here hx rfl (hb hby at_115) ?_
          exact k
        exact ⟨T11, (0 : Int32), _, X11, e11, N11, (Or.inl rfl), pre39⟩
  rcases hdg with rfl | ⟨rfl, hg⟩
  · obtain ⟨T40, h40, X40, e40, E40, A40, D40, -, st40⟩ := newO X32 hx hZ hown (hw _ (List.mem_of_getElem? (i := 7) rfl)) (hw _ (List.mem_of_getElem? (i := 8) rfl)) (hw _ (List.mem_of_getElem? (i := 9) rfl)) e32 (g := (mkF m 118 #[.val (.int p0), .val (.int p1), .val (.int p2), .val (.int p3), .val (.int ee), .val (.int wg), .val (.int md), .val (.int ss), .val (.int (0 : Int32)), .unset, .unset, .unset, .unset, .unset, .unset] [])) rfl (hb hby at_118) (by decide) (by decide)
    obtain ⟨b40, g40⟩ : ∃ z, z = h0.size := ⟨_, rfl⟩
    rw [← g40] at A40 D40 st40
    have g_b40 : n0 ≤ b40 := Nat.le_trans Z0 (Nat.le_of_eq g40.symm)
    have Z41 : n0 ≤ h40.size := Nat.le_trans Z0 E40.1
    have F_expected_b40 : Fld Z h40 b40 "com/example/depthwire/depthwire/InboundSeqNums" "expected" "I" (.int (0 : Int32)) := D40 (Or.inl (hw _ (List.mem_of_getElem? (i := 17) rfl))) (ty := .int) (by decide)
    have F_askedUpTo_b40 : Fld Z h40 b40 "com/example/depthwire/depthwire/InboundSeqNums" "askedUpTo" "I" (.int (0 : Int32)) := D40 (Or.inl (hw _ (List.mem_of_getElem? (i := 24) rfl))) (ty := .int) (by decide)
    obtain ⟨_, _, ⟨T42, L42, k42, n42⟩, -, X42, ⟨Lc42, hQ42, l42, y42, z42⟩, st42⟩ := X40.specialBack hx (y := (⟨"com/example/depthwire/depthwire/InboundSeqNums", "<init>", "(I)V"⟩ : MethodName)) rfl hown (mvT hZ (hw _ (List.mem_of_getElem? (i := 10) rfl))) (mvT hZ (hw _ (List.mem_of_getElem? (i := 11) rfl))) (mvT hZ (hw _ (List.mem_of_getElem? (i := 12) rfl))) (by decide) (backOf (W := 1) (rm3 l Z a0 hw [] b40 ee h40 n0 Z41 A40 F_expected_b40 F_askedUpTo_b40 g_b40) hZ (hw _ (List.mem_of_getElem? (i := 12) rfl)) (hw _ (List.mem_of_getElem? (i := 9) rfl)) (by decide) (by decide)) (g := (mkF m 124 #[.val (.int p0), .val (.int p1), .val (.int p2), .val (.int p3), .val (.int ee), .val (.int wg), .val (.int md), .val (.int ss), .val (.int (0 : Int32)), .unset, .unset, .unset, .unset, .unset, .unset] [(.int ee), (.ref b40), (.ref b40)])) rfl (by rw [hml]; rfl) (Steps.refl _) (a := b40) (argsL := [(.int ee)]) (rest := [(.ref b40)]) (lenOf pd_1 rfl) rfl (by show 2 * 0 + _ ≤ _; exact Nat.le_of_eq rfl) (hb hby at_124) (fun _ _ => ⟨rfl, e40, (by decide : 1 + 0 ≤ _), (by decide : 2 + 0 ≤ _)⟩)
    dsimp only [Pt.U, Pt.locs, Pt.cells, Pt.slots] at X42 l42 y42 z42 st42 hQ42
    subst l42 y42 z42
    obtain ⟨rfl, Nq42, Kq42, Eq42, Fe42, Fa42⟩ := hQ42
    have N42 := Fr.app N32 Nq42
    have Z43 : n0 ≤ T42.heap.size := Nat.le_trans Z41 Kq42.1
    obtain ⟨cq44, kq44, q44a, q44b, q44c⟩ := isOf hZ rfl Eq42
    obtain ⟨_, _, ⟨T44, L44, k44, n44⟩, -, X44, ⟨Lc44, hQ44, l44, y44, z44⟩, st44⟩ := X42.virtualBack hx (y := (⟨"com/example/depthwire/depthwire/InboundSeqNums", "moveTo", "(I)V"⟩ : MethodName)) (z := (⟨"com/example/depthwire/depthwire/InboundSeqNums", "moveTo", "(I)V"⟩ : MethodName)) hown (mvT hZ (hw _ (List.mem_of_getElem? (i := 30) rfl))) (mvT hZ (hw _ (List.mem_of_getElem? (i := 31) rfl))) (notFace_of_selects (args := #[]) (mvT hZ (hw _ (List.mem_of_getElem? (i := 33) rfl)))) (mvT hZ (hw _ (List.mem_of_getElem? (i := 33) rfl))) (mvT hZ (hw _ (List.mem_of_getElem? (i := 32) rfl))) (by decide) (backOf (W := 0) (rm6 l Z a0 hw [] b40 ss ee (0 : Int32) T42.heap n0 Z43 Eq42 Fe42 Fa42 g_b40) hZ (hw _ (List.mem_of_getElem? (i := 34) rfl)) (hw _ (List.mem_of_getElem? (i := 9) rfl)) (by decide) (by decide)) q44a q44c (g := (mkF m 167 #[.val (.int p0), .val (.int p1), .val (.int p2), .val (.int p3), .val (.int ee), .val (.int wg), .val (.int md), .val (.int ss), .val (.int (0 : Int32)), .val (.ref b40), .val (.int (0 : Int32)), .unset, .unset, .unset, .unset] [(.int ss), (.ref b40)])) rfl (by rw [hml]; rfl) (Steps.refl _) (argsL := [(.int ss)]) (rest := []) (lenOf pd_1 rfl) rfl (by show 2 * 0 + _ ≤ _; exact Nat.le_of_eq rfl) (hb hby at_167) (fun _ _ => ⟨rfl, rfl, (by decide : 1 + 0 ≤ _), (by decide : 2 + 0 ≤ _)⟩)
    dsimp only [Pt.U, Pt.locs, Pt.cells, Pt.slots] at X44 l44 y44 z44 st44 hQ44
    subst l44 y44 z44
    obtain ⟨rfl, Nq44, Kq44, Eq44, Fe44, Fa44⟩ := hQ44
    have N44 := Fr.app N42 Nq44
    have Z45 : n0 ≤ T44.heap.size := Nat.le_trans Z43 Kq44.1
    obtain ⟨cq46, kq46, q46a, q46b, q46c⟩ := isOf hZ rfl Eq44
    obtain ⟨_, _, ⟨T46, L46, k46, n46⟩, -, X46, ⟨Lc46, hQ46, l46, y46, z46⟩, st46⟩ := X44.virtualBack hx (y := (⟨"com/example/depthwire/depthwire/InboundSeqNums", "expected", "()I"⟩ : MethodName)) (z := (⟨"com/example/depthwire/depthwire/InboundSeqNums", "expected", "()I"⟩ : MethodName)) hown (mvT hZ (hw _ (List.mem_of_getElem? (i := 35) rfl))) (mvT hZ (hw _ (List.mem_of_getElem? (i := 36) rfl))) (notFace_of_selects (args := #[]) (mvT hZ (hw _ (List.mem_of_getElem? (i := 38) rfl)))) (mvT hZ (hw _ (List.mem_of_getElem? (i := 38) rfl))) (mvT hZ (hw _ (List.mem_of_getElem? (i := 37) rfl))) (by decide) (backOf (W := 0) (rm7 l Z a0 hw [] b40 ss T44.heap n0 Z45 Fe44) hZ (hw _ (List.mem_of_getElem? (i := 39) rfl)) (hw _ (List.mem_of_getElem? (i := 9) rfl)) (by decide) (by decide)) q46a q46c (g := (mkF m 172 #[.val (.int p0), .val (.int p1), .val (.int p2), .val (.int p3), .val (.int ee), .val (.int wg), .val (.int md), .val (.int ss), .val (.int (0 : Int32)), .val (.ref b40), .val (.int (0 : Int32)), .unset, .unset, .unset, .unset] [(.ref b40)])) rfl (by rw [hml]; rfl) (Steps.refl _) (argsL := []) (rest := []) (lenOf pd_2 rfl) rfl (by show 2 * 0 + _ ≤ _; exact Nat.le_of_eq rfl) (hb hby at_172) (fun _ _ => ⟨rfl, rfl, (by decide : 1 + 0 ≤ _), (by decide : 2 + 0 ≤ _)⟩)
    dsimp only [Pt.U, Pt.locs, Pt.cells, Pt.slots] at X46 l46 y46 z46 st46 hQ46
    subst l46 y46 z46
    obtain ⟨rfl, Nq46, hh46⟩ := hQ46
    have N46 := Fr.app N44 Nq46
    have e46 : T46.heap = T44.heap := hh46
    have pre47 : ∀ t, Steps p.tables e below (T46.setTop (mkF m 186 #[.val (.int p0), .val (.int p1), .val (.int p2), .val (.int p3), .val (.int ee), .val (.int wg), .val (.int md), .val (.int ss), .val (.int (0 : Int32)), .val (.ref b40), .val (.int (0 : Int32)), .unset, .unset, .unset, .unset] [(.int (0 : Int32)), (.int ss)])) t → Steps p.tables e below (s₁.setTop (entryFrame m #[(.int p0), (.int p1), (.int p2), (.int p3)] maxLocals)) t := fun t k => by
      refine pre32 t ?_
      show Steps p.tables e below (T32.setTop (mkF m 116 #[.val (.int p0), .val (.int p1), .val (.int p2), .val (.int p3), .val (.int ee), .val (.int wg), .val (.int md), .val (.int ss), .unset, .unset, .unset, .unset, .unset, .unset, .unset] [(.int (0 : Int32))])) _
      refine XS.istore X32.here hx rfl (hb hby at_116) rfl (l' := #[.val (.int p0), .val (.int p1), .val (.int p2), .val (.int p3), .val (.int ee), .val (.int wg), .val (.int md), .val (.int ss), .val (.int (0 : Int32)), .unset, .unset, .unset, .unset, .unset, .unset]) rfl ?_
      show Steps p.tables e below (T32.setTop (mkF m 118 #[.val (.int p0), .val (.int p1), .val (.int p2), .val (.int p3), .val (.int ee), .val (.int wg), .val (.int md), .val (.int ss), .val (.int (0 : Int32)), .unset, .unset, .unset, .unset, .unset, .unset] [])) _
      refine st40 _ ?_
      show Steps p.tables e below (T40.setTop (mkF m 121 #[.val (.int p0), .val (.int p1), .val (.int p2), .val (.int p3), .val (.int ee), .val (.int wg), .val (.int md), .val (.int ss), .val (.int (0 : Int32)), .unset, .unset, .unset, .unset, .unset, .unset] [(.ref b40)])) _
      refine XS.dup X40.here hx rfl (hb hby at_121) rfl rfl ?_
      show Steps p.tables e below (T40.setTop (mkF m 122 #[.val (.int p0), .val (.int p1), .val (.int p2), .val (.int p3), .val (.int ee), .val (.int wg), .val (.int md), .val (.int ss), .val (.int (0 : Int32)), .unset, .unset, .unset, .unset, .unset, .unset] [(.ref b40), (.ref b40)])) _
      refine XS.iload X40.here hx rfl (hb hby at_122) rfl ?_
      show Steps p.tables e below (T40.setTop (mkF m 124 #[.val (.int p0), .val (.int p1), .val (.int p2), .val (.int p3), .val (.int ee), .val (.int wg), .val (.int md), .val (.int ss), .val (.int (0 : Int32)), .unset, .unset, .unset, .unset, .unset, .unset] [(.int ee), (.ref b40), (.ref b40)])) _
      refine st42.trans ?_
      show Steps p.tables e below (T42.setTop (mkF m 127 #[.val (.int p0), .val (.int p1), .val (.int p2), .val (.int p3), .val (.int ee), .val (.int wg), .val (.int md), .val (.int ss), .val (.int (0 : Int32)), .unset, .unset, .unset, .unset, .unset, .unset] [(.ref b40)])) _
      refine XS.astore X42.here hx rfl (hb hby at_127) rfl rfl (l' := #[.val (.int p0), .val (.int p1), .val (.int p2), .val (.int p3), .val (.int ee), .val (.int wg), .val (.int md), .val (.int ss), .val (.int (0 : Int32)), .val (.ref b40), .unset, .unset, .unset, .unset, .unset]) rfl ?_
      show Steps p.tables e below (T42.setTop (mkF m 129 #[.val (.int p0), .val (.int p1), .val (.int p2), .val (.int p3), .val (.int ee), .val (.int wg), .val (.int md), .val (.int ss), .val (.int (0 : Int32)), .val (.ref b40), .unset, .unset, .unset, .unset, .unset] [])) _
      refine XS.iconst X42.here hx rfl (hb hby at_129) ?_
      show Steps p.tables e below (T42.setTop (mkF m 130 #[.val (.int p0), .val (.int p1), .val (.int p2), .val (.int p3), .val (.int ee), .val (.int wg), .val (.int md), .val (.int ss), .val (.int (0 : Int32)), .val (.ref b40), .unset, .unset, .unset, .unset, .unset] [(.int (0 : Int32))])) _
      refine XS.istore X42.here hx rfl (hb hby at_130) rfl (l' := #[.val (.int p0), .val (.int p1), .val (.int p2), .val (.int p3), .val (.int ee), .val (.int wg), .val (.int md), .val (.int ss), .val (.int (0 : Int32)), .val (.ref b40), .val (.int (0 : Int32)), .unset, .unset, .unset, .unset]) rfl ?_
      show Steps p.tables e below (T42.setTop (mkF m 132 #[.val (.int p0), .val (.int p1), .val (.int p2), .val (.int p3), .val (.int ee), .val (.int wg), .val (.int md), .val (.int ss), .val (.int (0 : Int32)), .val (.ref b40), .val (.int (0 : Int32)), .unset, .unset, .unset, .unset] [])) _
      refine XS.iload X42.here hx rfl (hb hby at_132) rfl ?_
      show Steps p.tables e below (T42.setTop (mkF m 134 #[.val (.int p0), .val (.int p1), .val (.int p2), .val (.int p3), .val (.int ee), .val (.int wg), .val (.int md), .val (.int ss), .val (.int (0 : Int32)), .val (.ref b40), .val (.int (0 : Int32)), .unset, .unset, .unset, .unset] [(.int (0 : Int32))])) _
      refine XS.ifYes X42.here hx rfl (pc0 := 134) (pc' := 163) rfl (hb hby at_134) rfl ((if0 _ _).trans (teq (by decide : (0 : Int32) = (0 : Int32))).1) (by decide) (by decide) ?_
      show Steps p.tables e below (T42.setTop (mkF m 163 #[.val (.int p0), .val (.int p1), .val (.int p2), .val (.int p3), .val (.int ee), .val (.int wg), .val (.int md), .val (.int ss), .val (.int (0 : Int32)), .val (.ref b40), .val (.int (0 : Int32)), .unset, .unset, .unset, .unset] [])) _
      refine XS.aload X42.here hx rfl (hb hby at_163) rfl rfl ?_
      show Steps p.tables e below (T42.setTop (mkF m 165 #[.val (.int p0), .val (.int p1), .val (.int p2), .val (.int p3), .val (.int ee), .val (.int wg), .val (.int md), .val (.int ss), .val (.int (0 : Int32)), .val (.ref b40), .val (.int (0 : Int32)), .unset, .unset, .unset, .unset] [(.ref b40)])) _
      refine XS.iload X42.here hx rfl (hb hby at_165) rfl ?_
      show Steps p.tables e below (T42.setTop (mkF m 167 #[.val (.int p0), .val (.int p1), .val (.int p2), .val (.int p3), .val (.int ee), .val (.int wg), .val (.int md), .val (.int ss), .val (.int (0 : Int32)), .val (.ref b40), .val (.int (0 : Int32)), .unset, .unset, .unset, .unset] [(.int ss), (.ref b40)])) _
      refine st44.trans ?_
      show Steps p.tables e below (T44.setTop (mkF m 170 #[.val (.int p0), .val (.int p1), .val (.int p2), .val (.int p3), .val (.int ee), .val (.int wg), .val (.int md), .val (.int ss), .val (.int (0 : Int32)), .val (.ref b40), .val (.int (0 : Int32)), .unset, .unset, .unset, .unset] [])) _
      refine XS.aload X44.here hx rfl (hb hby at_170) rfl rfl ?_
      show Steps p.tables e below (T44.setTop (mkF m 172 #[.val (.int p0), .val (.int p1), .val (.int p2), .val (.int p3), .val (.int ee), .val (.int wg), .val (.int md), .val (.int ss), .val (.int (0 : Int32)), .val (.ref b40), .val (.int (0 : Int32)), .unset, .unset, .unset, .unset] [(.ref b40)])) _
      refine st46.trans ?_
      show Steps p.tables e below (T46.setTop (mkF m 175 #[.val (.int p0), .val (.int p1), .val (.int p2), .val (.int p3), .val (.int ee), .val (.int wg), .val (.int md), .val (.int ss), .val (.int (0 : Int32)), .val (.ref b40), .val (.int (0 : Int32)), .unset, .unset, .unset, .unset] [(.int ss)])) _
      refine XS.iload X46.here hx rfl (hb hby at_175) rfl ?_
      show Steps p.tables e below (T46.setTop (mkF m 177 #[.val (.int p0), .val (.int p1), .val (.int p2), .val (.int p3), .val (.int ee), .val (.int wg), .val (.int md), .val (.int ss), .val (.int (0 : Int32)), .val (.ref b40), .val (.int (0 : Int32)), .unset, .unset, .unset, .unset] [(.int ss), (.int ss)])) _
      refine XS.icmpYes X46.here hx rfl (pc0 := 177) (pc' := 182) rfl (hb hby at_177) rfl (teq (rfl : ss = ss)).1 (by decide) (by decide) ?_
      show Steps p.tables e below (T46.setTop (mkF m 182 #[.val (.int p0), .val (.int p1), .val (.int p2), .val (.int p3), .val (.int ee), .val (.int wg), .val (.int md), .val (.int ss), .val (.int (0 : Int32)), .val (.ref b40), .val (.int (0 : Int32)), .unset, .unset, .unset, .unset] [])) _
      refine XS.iload X46.here hx rfl (hb hby at_182) rfl ?_
      show Steps p.tables e below (T46.setTop (mkF m 184 #[.val (.int p0), .val (.int p1), .val (.int p2), .val (.int p3), .val (.int ee), .val (.int wg), .val (.int md), .val (.int ss), .val (.int (0 : Int32)), .val (.ref b40), .val (.int (0 : Int32)), .unset, .unset, .unset, .unset] [(.int ss)])) _
      refine XS.iload X46.here hx rfl (hb hby at_184) rfl ?_
      exact k
    by_cases hc186_48 : (0 : Int32) < ss
    · have Fx49 : Fld Z T44.heap b40 "com/example/depthwire/depthwire/InboundSeqNums" "askedUpTo" "I" (.int (0 : Int32)) := by rw [if_pos hc186_48] at Fa44; exact Fa44
      have pre50 : ∀ t, Steps p.tables e below (T46.setTop (mkF m 213 #[.val (.int p0), .val (.int p1), .val (.int p2), .val (.int p3), .val (.int ee), .val (.int wg), .val (.int md), .val (.int ss), .val (.int (0 : Int32)), .val (.ref b40), .val (.int (0 : Int32)), .val (.int (0 : Int32)), .val (.int (0 : Int32)), .unset, .unset] [(.int (2147483647 : Int32)), (.int ss)])) t → Steps p.tables e below (s₁.setTop (entryFrame m #[(.int p0), (.int p1), (.int p2), (.int p3)] maxLocals)) t := fun t k => by
        refine pre47 t ?_
        show Steps p.tables e below (T46.setTop (mkF m 186 #[.val (.int p0), .val (.int p1), .val (.int p2), .val (.int p3), .val (.int ee), .val (.int wg), .val (.int md), .val (.int ss), .val (.int (0 : Int32)), .val (.ref b40), .val (.int (0 : Int32)), .unset, .unset, .unset, .unset] [(.int (0 : Int32)), (.int ss)])) _
        refine XS.icmpNo X46.here hx rfl (hb hby at_186) rfl (tlt hc186_48).2.2.2 ?_
        show Steps p.tables e below (T46.setTop (mkF m 189 #[.val (.int p0), .val (.int p1), .val (.int p2), .val (.int p3), .val (.int ee), .val (.int wg), .val (.int md), .val (.int ss), .val (.int (0 : Int32)), .val (.ref b40), .val (.int (0 : Int32)), .unset, .unset, .unset, .unset] [])) _
        refine XS.iconst X46.here hx rfl (hb hby at_189) ?_
        show Steps p.tables e below (T46.setTop (mkF m 190 #[.val (.int p0), .val (.int p1), .val (.int p2), .val (.int p3), .val (.int ee), .val (.int wg), .val (.int md), .val (.int ss), .val (.int (0 : Int32)), .val (.ref b40), .val (.int (0 : Int32)), .unset, .unset, .unset, .unset] [(.int (0 : Int32))])) _
        refine XS.goto X46.here hx rfl (pc0 := 190) (pc' := 195) rfl (hb hby at_190) (by decide) (by decide) ?_
        show Steps p.tables e below (T46.setTop (mkF m 195 #[.val (.int p0), .val (.int p1), .val (.int p2), .val (.int p3), .val (.int ee), .val (.int wg), .val (.int md), .val (.int ss), .val (.int (0 : Int32)), .val (.ref b40), .val (.int (0 : Int32)), .unset, .unset, .unset, .unset] [(.int (0 : Int32))])) _
        refine XS.istore X46.here hx rfl (hb hby at_195) rfl (l' := #[.val (.int p0), .val (.int p1), .val (.int p2), .val (.int p3), .val (.int ee), .val (.int wg), .val (.int md), .val (.int ss), .val (.int (0 : Int32)), .val (.ref b40), .val (.int (0 : Int32)), .val (.int (0 : Int32)), .unset, .unset, .unset]) rfl ?_
        show Steps p.tables e below (T46.setTop (mkF m 197 #[.val (.int p0), .val (.int p1), .val (.int p2), .val (.int p3), .val (.int ee), .val (.int wg), .val (.int md), .val (.int ss), .val (.int (0 : Int32)), .val (.ref b40), .val (.int (0 : Int32)), .val (.int (0 : Int32)), .unset, .unset, .unset] [])) _
        refine XS.iload X46.here hx rfl (hb hby at_197) rfl ?_
        show Steps p.tables e below (T46.setTop (mkF m 199 #[.val (.int p0), .val (.int p1), .val (.int p2), .val (.int p3), .val (.int ee), .val (.int wg), .val (.int md), .val (.int ss), .val (.int (0 : Int32)), .val (.ref b40), .val (.int (0 : Int32)), .val (.int (0 : Int32)), .unset, .unset, .unset] [(.int (0 : Int32))])) _
        refine XS.ifYes X46.here hx rfl (pc0 := 199) (pc' := 206) rfl (hb hby at_199) rfl ((if0 _ _).trans (flt (by decide : ¬ ((0 : Int32) < (0 : Int32)))).2.2.2) (by decide) (by decide) ?_
        show Steps p.tables e below (T46.setTop (mkF m 206 #[.val (.int p0), .val (.int p1), .val (.int p2), .val (.int p3), .val (.int ee), .val (.int wg), .val (.int md), .val (.int ss), .val (.int (0 : Int32)), .val (.ref b40), .val (.int (0 : Int32)), .val (.int (0 : Int32)), .unset, .unset, .unset] [])) _
        refine XS.iconst X46.here hx rfl (hb hby at_206) ?_
        show Steps p.tables e below (T46.setTop (mkF m 207 #[.val (.int p0), .val (.int p1), .val (.int p2), .val (.int p3), .val (.int ee), .val (.int wg), .val (.int md), .val (.int ss), .val (.int (0 : Int32)), .val (.ref b40), .val (.int (0 : Int32)), .val (.int (0 : Int32)), .unset, .unset, .unset] [(.int (0 : Int32))])) _
        refine XS.istore X46.here hx rfl (hb hby at_207) rfl (l' := #[.val (.int p0), .val (.int p1), .val (.int p2), .val (.int p3), .val (.int ee), .val (.int wg), .val (.int md), .val (.int ss), .val (.int (0 : Int32)), .val (.ref b40), .val (.int (0 : Int32)), .val (.int (0 : Int32)), .val (.int (0 : Int32)), .unset, .unset]) rfl ?_
        show Steps p.tables e below (T46.setTop (mkF m 209 #[.val (.int p0), .val (.int p1), .val (.int p2), .val (.int p3), .val (.int ee), .val (.int wg), .val (.int md), .val (.int ss), .val (.int (0 : Int32)), .val (.ref b40), .val (.int (0 : Int32)), .val (.int (0 : Int32)), .val (.int (0 : Int32)), .unset, .unset] [])) _
        refine XS.iload X46.here hx rfl (hb hby at_209) rfl ?_
        show Steps p.tables e below (T46.setTop (mkF m 211 #[.val (.int p0), .val (.int p1), .val (.int p2), .val (.int p3), .val (.int ee), .val (.int wg), .val (.int md), .val (.int ss), .val (.int (0 : Int32)), .val (.ref b40), .val (.int (0 : Int32)), .val (.int (0 : Int32)), .val (.int (0 : Int32)), .unset, .unset] [(.int ss)])) _
        refine X46.ldcInt hx hown (mvT hZ (hw _ (List.mem_of_getElem? (i := 40) rfl))) (g := (mkF m 211 #[.val (.int p0), .val (.int p1), .val (.int p2), .val (.int p3), .val (.int ee), .val (.int wg), .val (.int md), .val (.int ss), .val (.int (0 : Int32)), .val (.ref b40), .val (.int (0 : Int32)), .val (.int (0 : Int32)), .val (.int (0 : Int32)), .unset, .unset] [(.int ss)])) rfl (hb hby at_211) _ ?_
        exact k
      by_cases hc213_51 : ss = (2147483647 : Int32)
      · have pre52 : ∀ t, Steps p.tables e below (T46.setTop (mkF m 217 #[.val (.int p0), .val (.int p1), .val (.int p2), .val (.int p3), .val (.int ee), .val (.int wg), .val (.int md), .val (.int ss), .val (.int (0 : Int32)), .val (.ref b40), .val (.int (0 : Int32)), .val (.int (0 : Int32)), .val (.int (0 : Int32)), .unset, .unset] [(.int (1 : Int32))])) t → Steps p.tables e below (s₁.setTop (entryFrame m #[(.int p0), (.int p1), (.int p2), (.int p3)] maxLocals)) t := fun t k => by
          refine pre50 t ?_
          show Steps p.tables e below (T46.setTop (mkF m 213 #[.val (.int p0), .val (.int p1), .val (.int p2), .val (.int p3), .val (.int ee), .val (.int wg), .val (.int md), .val (.int ss), .val (.int (0 : Int32)), .val (.ref b40), .val (.int (0 : Int32)), .val (.int (0 : Int32)), .val (.int (0 : Int32)), .unset, .unset] [(.int (2147483647 : Int32)), (.int ss)])) _
          refine XS.icmpNo X46.here hx rfl (hb hby at_213) rfl (teq hc213_51).2 ?_
          show Steps p.tables e below (T46.setTop (mkF m 216 #[.val (.int p0), .val (.int p1), .val (.int p2), .val (.int p3), .val (.int ee), .val (.int wg), .val (.int md), .val (.int ss), .val (.int (0 : Int32)), .val (.ref b40), .val (.int (0 : Int32)), .val (.int (0 : Int32)), .val (.int (0 : Int32)), .unset, .unset] [])) _
          refine XS.iconst X46.here hx rfl (hb hby at_216) ?_
          exact k
        obtain ⟨fs, hrq, hrun, hended, hW, hsame⟩ := X46.leave (v := some (.int (1 : Int32))) (fun h => by rw [Bd.returns] at h; cases h)
        refine ⟨_, _, pre52 _ ?_, hrun, hended, _, _, rfl, ?_, ⟨_, rfl⟩, hW, hsame.mono (by decide) (by decide)⟩
        · show Steps p.tables e below (T46.setTop (mkF m 217 #[.val (.int p0), .val (.int p1), .val (.int p2), .val (.int p3), .val (.int ee), .val (.int wg), .val (.int md), .val (.int ss), .val (.int (0 : Int32)), .val (.ref b40), .val (.int (0 : Int32)), .val (.int (0 : Int32)), .val (.int (0 : Int32)), .unset, .unset] [(.int (1 : Int32))])) _
          exact retN X46 hx (t := .boolean) Bd.returns (by simp) (hb hby at_217) hrq
        · show Q0 Z p0 p1 p2 p3 ug ua h0 n0 _ T46.heap _
          rw [e46]
          exact ⟨rfl, N46⟩
      · have c53 : Sta Z T44.heap "com/example/depthwire/depthwire/InboundSeqNums$Verdict" "GAP" "Lcom/example/depthwire/depthwire/InboundSeqNums$Verdict;" (.ref ug) := (own_sta_keep (own_sta_keep (S_g.ext E40) Kq42 (allS (own_plain_exa A40) all0)) Kq44 (allS (own_plain_exa Eq42) all0))
        have c54 : Sta Z T44.heap "com/example/depthwire/depthwire/InboundSeqNums$Verdict" "GAP_ASKED" "Lcom/example/depthwire/depthwire/InboundSeqNums$Verdict;" (.ref ua) := (own_sta_keep (own_sta_keep (S_a.ext E40) Kq42 (allS (own_plain_exa A40) all0)) Kq44 (allS (own_plain_exa Eq42) all0))
        obtain ⟨cq55, kq55, q55a, q55b, q55c⟩ := isOf hZ e46 Eq44
        obtain ⟨_, _, ⟨T55, L55, k55, n55⟩, -, X55, ⟨Lc55, hQ55, l55, y55, z55⟩, st55⟩ := X46.virtualBack hx (y := (⟨"com/example/depthwire/depthwire/InboundSeqNums", "receive", "(IZ)Lcom/example/depthwire/depthwire/InboundSeqNums$Verdict;"⟩ : MethodName)) (z := (⟨"com/example/depthwire/depthwire/InboundSeqNums", "receive", "(IZ)Lcom/example/depthwire/depthwire/InboundSeqNums$Verdict;"⟩ : MethodName)) hown (mvT hZ (hw _ (List.mem_of_getElem? (i := 18) rfl))) (mvT hZ (hw _ (List.mem_of_getElem? (i := 19) rfl))) (notFace_of_selects (args := #[]) (mvT hZ (hw _ (List.mem_of_getElem? (i := 21) rfl)))) (mvT hZ (hw _ (List.mem_of_getElem? (i := 21) rfl))) (mvT hZ (hw _ (List.mem_of_getElem? (i := 20) rfl))) (by decide) (backOf (W := 0) (rm5 l Z a0 hw [] b40 (ss + (1 : Int32)) (0 : Int32) ss (0 : Int32) ug ua ug T44.heap n0 Z45 Eq44 Fe44 Fx49 g_b40 c53 c54 (own_succ hc213_51) (if_neg (by decide))) hZ (hw _ (List.mem_of_getElem? (i := 22) rfl)) (hw _ (List.mem_of_getElem? (i := 9) rfl)) (by decide) (by decide)) q55a q55c (g := (mkF m 225 #[.val (.int p0), .val (.int p1), .val (.int p2), .val (.int p3), .val (.int ee), .val (.int wg), .val (.int md), .val (.int ss), .val (.int (0 : Int32)), .val (.ref b40), .val (.int (0 : Int32)), .val (.int (0 : Int32)), .val (.int (0 : Int32)), .unset, .unset] [(.int (0 : Int32)), (.int (ss + (1 : Int32))), (.ref b40)])) rfl (by rw [hml]; rfl) (Steps.refl _) (argsL := [(.int (ss + (1 : Int32))), (.int (0 : Int32))]) (rest := []) (lenOf pd_3 rfl) rfl (by show 2 * 0 + _ ≤ _; exact Nat.le_of_eq rfl) (hb hby at_225) (fun _ _ => ⟨rfl, e46, (by decide : 1 + 0 ≤ _), (by decide : 2 + 0 ≤ _)⟩)
        dsimp only [Pt.U, Pt.locs, Pt.cells, Pt.slots] at X55 l55 y55 z55 st55 hQ55
        subst l55 y55 z55
        obtain ⟨rfl, Nq55, Kq55, Eq55, Fe55, Fa55⟩ := hQ55
        have N55 := Fr.app N46 Nq55
        have Z56 : n0 ≤ T55.heap.size := Nat.le_trans Z45 Kq55.1
        have c57 : Sta Z T55.heap "com/example/depthwire/depthwire/InboundSeqNums$Verdict" "GAP" "Lcom/example/depthwire/depthwire/InboundSeqNums$Verdict;" (.ref ug) := (own_sta_keep c53 Kq55 (allS (own_plain_exa Eq44) all0))
        obtain ⟨T58, X58, e58, st58⟩ := getS2 X55 hx hZ hown (host := "") (Or.inl (hw _ (List.mem_of_getElem? (i := 29) rfl))) Via.refl rfl c57 (g := (mkF m 241 #[.val (.int p0), .val (.int p1), .val (.int p2), .val (.int p3), .val (.int ee), .val (.int wg), .val (.int md), .val (.int ss), .val (.int (0 : Int32)), .val (.ref b40), .val (.int (0 : Int32)), .val (.int (0 : Int32)), .val (.int (0 : Int32)), .val (.ref ug), .unset] [])) rfl (hb hby at_241)
        have pre59 : ∀ t, Steps p.tables e below (T58.setTop (mkF m 258 #[.val (.int p0), .val (.int p1), .val (.int p2), .val (.int p3), .val (.int ee), .val (.int wg), .val (.int md), .val (.int ss), .val (.int (0 : Int32)), .val (.ref b40), .val (.int (0 : Int32)), .val (.int (0 : Int32)), .val (.int (0 : Int32)), .val (.ref ug), .val (.ref ug)] [(.int (1 : Int32))])) t → Steps p.tables e below (s₁.setTop (entryFrame m #[(.int p0), (.int p1), (.int p2), (.int p3)] maxLocals)) t := fun t k => by
          refine pre50 t ?_
          show Steps p.tables e below (T46.setTop (mkF m 213 #[.val (.int p0), .val (.int p1), .val (.int p2), .val (.int p3), .val (.int ee), .val (.int wg), .val (.int md), .val (.int ss), .val (.int (0 : Int32)), .val (.ref b40), .val (.int (0 : Int32)), .val (.int (0 : Int32)), .val (.int (0 : Int32)), .unset, .unset] [(.int (2147483647 : Int32)), (.int ss)])) _
          refine XS.icmpYes X46.here hx rfl (pc0 := 213) (pc' := 218) rfl (hb hby at_213) rfl (feq hc213_51).2 (by decide) (by decide) ?_
          show Steps p.tables e below (T46.setTop (mkF m 218 #[.val (.int p0), .val (.int p1), .val (.int p2), .val (.int p3), .val (.int ee), .val (.int wg), .val (.int md), .val (.int ss), .val (.int (0 : Int32)), .val (.ref b40), .val (.int (0 : Int32)), .val (.int (0 : Int32)), .val (.int (0 : Int32)), .unset, .unset] [])) _
          refine XS.aload X46.here hx rfl (hb hby at_218) rfl rfl ?_
          show Steps p.tables e below (T46.setTop (mkF m 220 #[.val (.int p0), .val (.int p1), .val (.int p2), .val (.int p3), .val (.int ee), .val (.int wg), .val (.int md), .val (.int ss), .val (.int (0 : Int32)), .val (.ref b40), .val (.int (0 : Int32)), .val (.int (0 : Int32)), .val (.int (0 : Int32)), .unset, .unset] [(.ref b40)])) _
          refine XS.iload X46.here hx rfl (hb hby at_220) rfl ?_
          show Steps p.tables e below (T46.setTop (mkF m 222 #[.val (.int p0), .val (.int p1), .val (.int p2), .val (.int p3), .val (.int ee), .val (.int wg), .val (.int md), .val (.int ss), .val (.int (0 : Int32)), .val (.ref b40), .val (.int (0 : Int32)), .val (.int (0 : Int32)), .val (.int (0 : Int32)), .unset, .unset] [(.int ss), (.ref b40)])) _
          refine XS.iconst X46.here hx rfl (hb hby at_222) ?_
          show Steps p.tables e below (T46.setTop (mkF m 223 #[.val (.int p0), .val (.int p1), .val (.int p2), .val (.int p3), .val (.int ee), .val (.int wg), .val (.int md), .val (.int ss), .val (.int (0 : Int32)), .val (.ref b40), .val (.int (0 : Int32)), .val (.int (0 : Int32)), .val (.int (0 : Int32)), .unset, .unset] [(.int (1 : Int32)), (.int ss), (.ref b40)])) _
          refine XS.iadd X46.here hx rfl (hb hby at_223) rfl ?_
          show Steps p.tables e below (T46.setTop (mkF m 224 #[.val (.int p0), .val (.int p1), .val (.int p2), .val (.int p3), .val (.int ee), .val (.int wg), .val (.int md), .val (.int ss), .val (.int (0 : Int32)), .val (.ref b40), .val (.int (0 : Int32)), .val (.int (0 : Int32)), .val (.int (0 : Int32)), .unset, .unset] [(.int (ss + (1 : Int32))), (.ref b40)])) _
          refine XS.iconst X46.here hx rfl (hb hby at_224) ?_
          show Steps p.tables e below (T46.setTop (mkF m 225 #[.val (.int p0), .val (.int p1), .val (.int p2), .val (.int p3), .val (.int ee), .val (.int wg), .val (.int md), .val (.int ss), .val (.int (0 : Int32)), .val (.ref b40), .val (.int (0 : Int32)), .val (.int (0 : Int32)), .val (.int (0 : Int32)), .unset, .unset] [(.int (0 : Int32)), (.int (ss + (1 : Int32))), (.ref b40)])) _
          refine st55.trans ?_
          show Steps p.tables e below (T55.setTop (mkF m 228 #[.val (.int p0), .val (.int p1), .val (.int p2), .val (.int p3), .val (.int ee), .val (.int wg), .val (.int md), .val (.int ss), .val (.int (0 : Int32)), .val (.ref b40), .val (.int (0 : Int32)), .val (.int (0 : Int32)), .val (.int (0 : Int32)), .unset, .unset] [(.ref ug)])) _
          refine XS.astore X55.here hx rfl (hb hby at_228) rfl rfl (l' := #[.val (.int p0), .val (.int p1), .val (.int p2), .val (.int p3), .val (.int ee), .val (.int wg), .val (.int md), .val (.int ss), .val (.int (0 : Int32)), .val (.ref b40), .val (.int (0 : Int32)), .val (.int (0 : Int32)), .val (.int (0 : Int32)), .val (.ref ug), .unset]) rfl ?_
          show Steps p.tables e below (T55.setTop (mkF m 230 #[.val (.int p0), .val (.int p1), .val (.int p2), .val (.int p3), .val (.int ee), .val (.int wg), .val (.int md), .val (.int ss), .val (.int (0 : Int32)), .val (.ref b40), .val (.int (0 : Int32)), .val (.int (0 : Int32)), .val (.int (0 : Int32)), .val (.ref ug), .unset] [])) _
          refine XS.iload X55.here hx rfl (hb hby at_230) rfl ?_
          show Steps p.tables e below (T55.setTop (mkF m 232 #[.val (.int p0), .val (.int p1), .val (.int p2), .val (.int p3), .val (.int ee), .val (.int wg), .val (.int md), .val (.int ss), .val (.int (0 : Int32)), .val (.ref b40), .val (.int (0 : Int32)), .val (.int (0 : Int32)), .val (.int (0 : Int32)), .val (.ref ug), .unset] [(.int (0 : Int32))])) _
          refine XS.ifYes X55.here hx rfl (pc0 := 232) (pc' := 241) rfl (hb hby at_232) rfl ((if0 _ _).trans (teq (by decide : (0 : Int32) = (0 : Int32))).1) (by decide) (by decide) ?_
          show Steps p.tables e below (T55.setTop (mkF m 241 #[.val (.int p0), .val (.int p1), .val (.int p2), .val (.int p3), .val (.int ee), .val (.int wg), .val (.int md), .val (.int ss), .val (.int (0 : Int32)), .val (.ref b40), .val (.int (0 : Int32)), .val (.int (0 : Int32)), .val (.int (0 : Int32)), .val (.ref ug), .unset] [])) _
          refine st58 _ ?_
          show Steps p.tables e below (T58.setTop (mkF m 244 #[.val (.int p0), .val (.int p1), .val (.int p2), .val (.int p3), .val (.int ee), .val (.int wg), .val (.int md), .val (.int ss), .val (.int (0 : Int32)), .val (.ref b40), .val (.int (0 : Int32)), .val (.int (0 : Int32)), .val (.int (0 : Int32)), .val (.ref ug), .unset] [(.ref ug)])) _
          refine XS.astore X58.here hx rfl (hb hby at_244) rfl rfl (l' := #[.val (.int p0), .val (.int p1), .val (.int p2), .val (.int p3), .val (.int ee), .val (.int wg), .val (.int md), .val (.int ss), .val (.int (0 : Int32)), .val (.ref b40), .val (.int (0 : Int32)), .val (.int (0 : Int32)), .val (.int (0 : Int32)), .val (.ref ug), .val (.ref ug)]) rfl ?_
          show Steps p.tables e below (T58.setTop (mkF m 246 #[.val (.int p0), .val (.int p1), .val (.int p2), .val (.int p3), .val (.int ee), .val (.int wg), .val (.int md), .val (.int ss), .val (.int (0 : Int32)), .val (.ref b40), .val (.int (0 : Int32)), .val (.int (0 : Int32)), .val (.int (0 : Int32)), .val (.ref ug), .val (.ref ug)] [])) _
          refine XS.aload X58.here hx rfl (hb hby at_246) rfl rfl ?_
          show Steps p.tables e below (T58.setTop (mkF m 248 #[.val (.int p0), .val (.int p1), .val (.int p2), .val (.int p3), .val (.int ee), .val (.int wg), .val (.int md), .val (.int ss), .val (.int (0 : Int32)), .val (.ref b40), .val (.int (0 : Int32)), .val (.int (0 : Int32)), .val (.int (0 : Int32)), .val (.ref ug), .val (.ref ug)] [(.ref ug)])) _
          refine XS.aload X58.here hx rfl (hb hby at_248) rfl rfl ?_
          show Steps p.tables e below (T58.setTop (mkF m 250 #[.val (.int p0), .val (.int p1), .val (.int p2), .val (.int p3), .val (.int ee), .val (.int wg), .val (.int md), .val (.int ss), .val (.int (0 : Int32)), .val (.ref b40), .val (.int (0 : Int32)), .val (.int (0 : Int32)), .val (.int (0 : Int32)), .val (.ref ug), .val (.ref ug)] [(.ref ug), (.ref ug)])) _
          refine Jvm.RoadKit.acmp (g := (mkF m 250 #[.val (.int p0), .val (.int p1), .val (.int p2), .val (.int p3), .val (.int ee), .val (.int wg), .val (.int md), .val (.int ss), .val (.int (0 : Int32)), .val (.ref b40), .val (.int (0 : Int32)), .val (.int (0 : Int32)), .val (.int (0 : Int32)), .val (.ref ug), .val (.ref ug)] [(.ref ug), (.ref ug)])) X58 hx rfl rfl rfl (pc0 := 250) (pc' := 253) (same := true) rfl (hb hby at_250) rfl (decide_eq_true rfl) (by decide) (by decide) ?_
          show Steps p.tables e below (T58.setTop (mkF m 253 #[.val (.int p0), .val (.int p1), .val (.int p2), .val (.int p3), .val (.int ee), .val (.int wg), .val (.int md), .val (.int ss), .val (.int (0 : Int32)), .val (.ref b40), .val (.int (0 : Int32)), .val (.int (0 : Int32)), .val (.int (0 : Int32)), .val (.ref ug), .val (.ref ug)] [])) _
          refine XS.iconst X58.here hx rfl (hb hby at_253) ?_
          show Steps p.tables e below (T58.setTop (mkF m 254 #[.val (.int p0), .val (.int p1), .val (.int p2), .val (.int p3), .val (.int ee), .val (.int wg), .val (.int md), .val (.int ss), .val (.int (0 : Int32)), .val (.ref b40), .val (.int (0 : Int32)), .val (.int (0 : Int32)), .val (.int (0 : Int32)), .val (.ref ug), .val (.ref ug)] [(.int (1 : Int32))])) _
          refine XS.goto X58.here hx rfl (pc0 := 254) (pc' := 258) rfl (hb hby at_254) (by decide) (by decide) ?_
          exact k
        obtain ⟨fs, hrq, hrun, hended, hW, hsame⟩ := X58.leave (v := some (.int (1 : Int32))) (fun h => by rw [Bd.returns] at h; cases h)
        refine ⟨_, _, pre59 _ ?_, hrun, hended, _, _, rfl, ?_, ⟨_, rfl⟩, hW, hsame.mono (by decide) (by decide)⟩
        · show Steps p.tables e below (T58.setTop (mkF m 258 #[.val (.int p0), .val (.int p1), .val (.int p2), .val (.int p3), .val (.int ee), .val (.int wg), .val (.int md), .val (.int ss), .val (.int (0 : Int32)), .val (.ref b40), .val (.int (0 : Int32)), .val (.int (0 : Int32)), .val (.int (0 : Int32)), .val (.ref ug), .val (.ref ug)] [(.int (1 : Int32))])) _
          exact retN X58 hx (t := .boolean) Bd.returns (by simp) (hb hby at_258) hrq
        · show Q0 Z p0 p1 p2 p3 ug ua h0 n0 _ T58.heap _
          rw [e58]
          exact ⟨rfl, N55⟩
    · have Fx60 : Fld Z T44.heap b40 "com/example/depthwire/depthwire/InboundSeqNums" "askedUpTo" "I" (.int (0 : Int32)) := by rw [if_neg hc186_48] at Fa44; exact Fa44
      have pre61 : ∀ t, Steps p.tables e below (T46.setTop (mkF m 213 #[.val (.int p0), .val (.int p1), .val (.int p2), .val (.int p3), .val (.int ee), .val (.int wg), .val (.int md), .val (.int ss), .val (.int (0 : Int32)), .val (.ref b40), .val (.int (0 : Int32)), .val (.int (0 : Int32)), .val (.int (0 : Int32)), .unset, .unset] [(.int (2147483647 : Int32)), (.int ss)])) t → Steps p.tables e below (s₁.setTop (entryFrame m #[(.int p0), (.int p1), (.int p2), (.int p3)] maxLocals)) t := fun t k => by
        refine pre47 t ?_
        show Steps p.tables e below (T46.setTop (mkF m 186 #[.val (.int p0), .val (.int p1), .val (.int p2), .val (.int p3), .val (.int ee), .val (.int wg), .val (.int md), .val (.int ss), .val (.int (0 : Int32)), .val (.ref b40), .val (.int (0 : Int32)), .unset, .unset, .unset, .unset] [(.int (0 : Int32)), (.int ss)])) _
        refine XS.icmpYes X46.here hx rfl (pc0 := 186) (pc' := 193) rfl (hb hby at_186) rfl (flt hc186_48).2.2.2 (by decide) (by decide) ?_
        show Steps p.tables e below (T46.setTop (mkF m 193 #[.val (.int p0), .val (.int p1), .val (.int p2), .val (.int p3), .val (.int ee), .val (.int wg), .val (.int md), .val (.int ss), .val (.int (0 : Int32)), .val (.ref b40), .val (.int (0 : Int32)), .unset, .unset, .unset, .unset] [])) _
        refine XS.iload X46.here hx rfl (hb hby at_193) rfl ?_
        show Steps p.tables e below (T46.setTop (mkF m 195 #[.val (.int p0), .val (.int p1), .val (.int p2), .val (.int p3), .val (.int ee), .val (.int wg), .val (.int md), .val (.int ss), .val (.int (0 : Int32)), .val (.ref b40), .val (.int (0 : Int32)), .unset, .unset, .unset, .unset] [(.int (0 : Int32))])) _
        refine XS.istore X46.here hx rfl (hb hby at_195) rfl (l' := #[.val (.int p0), .val (.int p1), .val (.int p2), .val (.int p3), .val (.int ee), .val (.int wg), .val (.int md), .val (.int ss), .val (.int (0 : Int32)), .val (.ref b40), .val (.int (0 : Int32)), .val (.int (0 : Int32)), .unset, .unset, .unset]) rfl ?_
        show Steps p.tables e below (T46.setTop (mkF m 197 #[.val (.int p0), .val (.int p1), .val (.int p2), .val (.int p3), .val (.int ee), .val (.int wg), .val (.int md), .val (.int ss), .val (.int (0 : Int32)), .val (.ref b40), .val (.int (0 : Int32)), .val (.int (0 : Int32)), .unset, .unset, .unset] [])) _
        refine XS.iload X46.here hx rfl (hb hby at_197) rfl ?_
        show Steps p.tables e below (T46.setTop (mkF m 199 #[.val (.int p0), .val (.int p1), .val (.int p2), .val (.int p3), .val (.int ee), .val (.int wg), .val (.int md), .val (.int ss), .val (.int (0 : Int32)), .val (.ref b40), .val (.int (0 : Int32)), .val (.int (0 : Int32)), .unset, .unset, .unset] [(.int (0 : Int32))])) _
        refine XS.ifYes X46.here hx rfl (pc0 := 199) (pc' := 206) rfl (hb hby at_199) rfl ((if0 _ _).trans (flt (by decide : ¬ ((0 : Int32) < (0 : Int32)))).2.2.2) (by decide) (by decide) ?_
        show Steps p.tables e below (T46.setTop (mkF m 206 #[.val (.int p0), .val (.int p1), .val (.int p2), .val (.int p3), .val (.int ee), .val (.int wg), .val (.int md), .val (.int ss), .val (.int (0 : Int32)), .val (.ref b40), .val (.int (0 : Int32)), .val (.int (0 : Int32)), .unset, .unset, .unset] [])) _
        refine XS.iconst X46.here hx rfl (hb hby at_206) ?_
        show Steps p.tables e below (T46.setTop (mkF m 207 #[.val (.int p0), .val (.int p1), .val (.int p2), .val (.int p3), .val (.int ee), .val (.int wg), .val (.int md), .val (.int ss), .val (.int (0 : Int32)), .val (.ref b40), .val (.int (0 : Int32)), .val (.int (0 : Int32)), .unset, .unset, .unset] [(.int (0 : Int32))])) _
        refine XS.istore X46.here hx rfl (hb hby at_207) rfl (l' := #[.val (.int p0), .val (.int p1), .val (.int p2), .val (.int p3), .val (.int ee), .val (.int wg), .val (.int md), .val (.int ss), .val (.int (0 : Int32)), .val (.ref b40), .val (.int (0 : Int32)), .val (.int (0 : Int32)), .val (.int (0 : Int32)), .unset, .unset]) rfl ?_
        show Steps p.tables e below (T46.setTop (mkF m 209 #[.val (.int p0), .val (.int p1), .val (.int p2), .val (.int p3), .val (.int ee), .val (.int wg), .val (.int md), .val (.int ss), .val (.int (0 : Int32)), .val (.ref b40), .val (.int (0 : Int32)), .val (.int (0 : Int32)), .val (.int (0 : Int32)), .unset, .unset] [])) _
        refine XS.iload X46.here hx rfl (hb hby at_209) rfl ?_
        show Steps p.tables e below (T46.setTop (mkF m 211 #[.val (.int p0), .val (.int p1), .val (.int p2), .val (.int p3), .val (.int ee), .val (.int wg), .val (.int md), .val (.int ss), .val (.int (0 : Int32)), .val (.ref b40), .val (.int (0 : Int32)), .val (.int (0 : Int32)), .val (.int (0 : Int32)), .unset, .unset] [(.int ss)])) _
        refine X46.ldcInt hx hown (mvT hZ (hw _ (List.mem_of_getElem? (i := 40) rfl))) (g := (mkF m 211 #[.val (.int p0), .val (.int p1), .val (.int p2), .val (.int p3), .val (.int ee), .val (.int wg), .val (.int md), .val (.int ss), .val (.int (0 : Int32)), .val (.ref b40), .val (.int (0 : Int32)), .val (.int (0 : Int32)), .val (.int (0 : Int32)), .unset, .unset] [(.int ss)])) rfl (hb hby at_211) _ ?_
        exact k
      by_cases hc213_62 : ss = (2147483647 : Int32)
      · have pre63 : ∀ t, Steps p.tables e below (T46.setTop (mkF m 217 #[.val (.int p0), .val (.int p1), .val (.int p2), .val (.int p3), .val (.int ee), .val (.int wg), .val (.int md), .val (.int ss), .val (.int (0 : Int32)), .val (.ref b40), .val (.int (0 : Int32)), .val (.int (0 : Int32)), .val (.int (0 : Int32)), .unset, .unset] [(.int (1 : Int32))])) t → Steps p.tables e below (s₁.setTop (entryFrame m #[(.int p0), (.int p1), (.int p2), (.int p3)] maxLocals)) t := fun t k => by
          refine pre61 t ?_
          show Steps p.tables e below (T46.setTop (mkF m 213 #[.val (.int p0), .val (.int p1), .val (.int p2), .val (.int p3), .val (.int ee), .val (.int wg), .val (.int md), .val (.int ss), .val (.int (0 : Int32)), .val (.ref b40), .val (.int (0 : Int32)), .val (.int (0 : Int32)), .val (.int (0 : Int32)), .unset, .unset] [(.int (2147483647 : Int32)), (.int ss)])) _
          refine XS.icmpNo X46.here hx rfl (hb hby at_213) rfl (teq hc213_62).2 ?_
          show Steps p.tables e below (T46.setTop (mkF m 216 #[.val (.int p0), .val (.int p1), .val (.int p2), .val (.int p3), .val (.int ee), .val (.int wg), .val (.int md), .val (.int ss), .val (.int (0 : Int32)), .val (.ref b40), .val (.int (0 : Int32)), .val (.int (0 : Int32)), .val (.int (0 : Int32)), .unset, .unset] [])) _
          refine XS.iconst X46.here hx rfl (hb hby at_216) ?_
          exact k
        obtain ⟨fs, hrq, hrun, hended, hW, hsame⟩ := X46.leave (v := some (.int (1 : Int32))) (fun h => by rw [Bd.returns] at h; cases h)
        refine ⟨_, _, pre63 _ ?_, hrun, hended, _, _, rfl, ?_, ⟨_, rfl⟩, hW, hsame.mono (by decide) (by decide)⟩
        · show Steps p.tables e below (T46.setTop (mkF m 217 #[.val (.int p0), .val (.int p1), .val (.int p2), .val (.int p3), .val (.int ee), .val (.int wg), .val (.int md), .val (.int ss), .val (.int (0 : Int32)), .val (.ref b40), .val (.int (0 : Int32)), .val (.int (0 : Int32)), .val (.int (0 : Int32)), .unset, .unset] [(.int (1 : Int32))])) _
          exact retN X46 hx (t := .boolean) Bd.returns (by simp) (hb hby at_217) hrq
        · show Q0 Z p0 p1 p2 p3 ug ua h0 n0 _ T46.heap _
          rw [e46]
          exact ⟨rfl, N46⟩
      · have c64 : Sta Z T44.heap "com/example/depthwire/depthwire/InboundSeqNums$Verdict" "GAP" "Lcom/example/depthwire/depthwire/InboundSeqNums$Verdict;" (.ref ug) := (own_sta_keep (own_sta_keep (S_g.ext E40) Kq42 (allS (own_plain_exa A40) all0)) Kq44 (allS (own_plain_exa Eq42) all0))
        have c65 : Sta Z T44.heap "com/example/depthwire/depthwire/InboundSeqNums$Verdict" "GAP_ASKED" "Lcom/example/depthwire/depthwire/InboundSeqNums$Verdict;" (.ref ua) := (own_sta_keep (own_sta_keep (S_a.ext E40) Kq42 (allS (own_plain_exa A40) all0)) Kq44 (allS (own_plain_exa Eq42) all0))
        obtain ⟨cq66, kq66, q66a, q66b, q66c⟩ := isOf hZ e46 Eq44
        obtain ⟨_, _, ⟨T66, L66, k66, n66⟩, -, X66, ⟨Lc66, hQ66, l66, y66, z66⟩, st66⟩ := X46.virtualBack hx (y := (⟨"com/example/depthwire/depthwire/InboundSeqNums", "receive", "(IZ)Lcom/example/depthwire/depthwire/InboundSeqNums$Verdict;"⟩ : MethodName)) (z := (⟨"com/example/depthwire/depthwire/InboundSeqNums", "receive", "(IZ)Lcom/example/depthwire/depthwire/InboundSeqNums$Verdict;"⟩ : MethodName)) hown (mvT hZ (hw _ (List.mem_of_getElem? (i := 18) rfl))) (mvT hZ (hw _ (List.mem_of_getElem? (i := 19) rfl))) (notFace_of_selects (args := #[]) (mvT hZ (hw _ (List.mem_of_getElem? (i := 21) rfl)))) (mvT hZ (hw _ (List.mem_of_getElem? (i := 21) rfl))) (mvT hZ (hw _ (List.mem_of_getElem? (i := 20) rfl))) (by decide) (backOf (W := 0) (rm5 l Z a0 hw [] b40 (ss + (1 : Int32)) (0 : Int32) ss (0 : Int32) ug ua ug T44.heap n0 Z45 Eq44 Fe44 Fx60 g_b40 c64 c65 (own_succ hc213_62) (if_neg (by decide))) hZ (hw _ (List.mem_of_getElem? (i := 22) rfl)) (hw _ (List.mem_of_getElem? (i := 9) rfl)) (by decide) (by decide)) q66a q66c (g := (mkF m 225 #[.val (.int p0), .val (.int p1), .val (.int p2), .val (.int p3), .val (.int ee), .val (.int wg), .val (.int md), .val (.int ss), .val (.int (0 : Int32)), .val (.ref b40), .val (.int (0 : Int32)), .val (.int (0 : Int32)), .val (.int (0 : Int32)), .unset, .unset] [(.int (0 : Int32)), (.int (ss + (1 : Int32))), (.ref b40)])) rfl (by rw [hml]; rfl) (Steps.refl _) (argsL := [(.int (ss + (1 : Int32))), (.int (0 : Int32))]) (rest := []) (lenOf pd_3 rfl) rfl (by show 2 * 0 + _ ≤ _; exact Nat.le_of_eq rfl) (hb hby at_225) (fun _ _ => ⟨rfl, e46, (by decide : 1 + 0 ≤ _), (by decide : 2 + 0 ≤ _)⟩)
        dsimp only [Pt.U, Pt.locs, Pt.cells, Pt.slots] at X66 l66 y66 z66 st66 hQ66
        subst l66 y66 z66
        obtain ⟨rfl, Nq66, Kq66, Eq66, Fe66, Fa66⟩ := hQ66
        have N66 := Fr.app N46 Nq66
        have Z67 : n0 ≤ T66.heap.size := Nat.le_trans Z45 Kq66.1
        have c68 : Sta Z T66.heap "com/example/depthwire/depthwire/InboundSeqNums$Verdict" "GAP" "Lcom/example/depthwire/depthwire/InboundSeqNums$Verdict;" (.ref ug) := (own_sta_keep c64 Kq66 (allS (own_plain_exa Eq44) all0))
        obtain ⟨T69, X69, e69, st69⟩ := getS2 X66 hx hZ hown (host := "") (Or.inl (hw _ (List.mem_of_getElem? (i := 29) rfl))) Via.refl rfl c68 (g := (mkF m 241 #[.val (.int p0), .val (.int p1), .val (.int p2), .val (.int p3), .val (.int ee), .val (.int wg), .val (.int md), .val (.int ss), .val (.int (0 : Int32)), .val (.ref b40), .val (.int (0 : Int32)), .val (.int (0 : Int32)), .val (.int (0 : Int32)), .val (.ref ug), .unset] [])) rfl (hb hby at_241)
        have pre70 : ∀ t, Steps p.tables e below (T69.setTop (mkF m 258 #[.val (.int p0), .val (.int p1), .val (.int p2), .val (.int p3), .val (.int ee), .val (.int wg), .val (.int md), .val (.int ss), .val (.int (0 : Int32)), .val (.ref b40), .val (.int (0 : Int32)), .val (.int (0 : Int32)), .val (.int (0 : Int32)), .val (.ref ug), .val (.ref ug)] [(.int (1 : Int32))])) t → Steps p.tables e below (s₁.setTop (entryFrame m #[(.int p0), (.int p1), (.int p2), (.int p3)] maxLocals)) t := fun t k => by
          refine pre61 t ?_
          show Steps p.tables e below (T46.setTop (mkF m 213 #[.val (.int p0), .val (.int p1), .val (.int p2), .val (.int p3), .val (.int ee), .val (.int wg), .val (.int md), .val (.int ss), .val (.int (0 : Int32)), .val (.ref b40), .val (.int (0 : Int32)), .val (.int (0 : Int32)), .val (.int (0 : Int32)), .unset, .unset] [(.int (2147483647 : Int32)), (.int ss)])) _
          refine XS.icmpYes X46.here hx rfl (pc0 := 213) (pc' := 218) rfl (hb hby at_213) rfl (feq hc213_62).2 (by decide) (by decide) ?_
          show Steps p.tables e below (T46.setTop (mkF m 218 #[.val (.int p0), .val (.int p1), .val (.int p2), .val (.int p3), .val (.int ee), .val (.int wg), .val (.int md), .val (.int ss), .val (.int (0 : Int32)), .val (.ref b40), .val (.int (0 : Int32)), .val (.int (0 : Int32)), .val (.int (0 : Int32)), .unset, .unset] [])) _
          refine XS.aload X46.here hx rfl (hb hby at_218) rfl rfl ?_
          show Steps p.tables e below (T46.setTop (mkF m 220 #[.val (.int p0), .val (.int p1), .val (.int p2), .val (.int p3), .val (.int ee), .val (.int wg), .val (.int md), .val (.int ss), .val (.int (0 : Int32)), .val (.ref b40), .val (.int (0 : Int32)), .val (.int (0 : Int32)), .val (.int (0 : Int32)), .unset, .unset] [(.ref b40)])) _
          refine XS.iload X46.here hx rfl (hb hby at_220) rfl ?_
          show Steps p.tables e below (T46.setTop (mkF m 222 #[.val (.int p0), .val (.int p1), .val (.int p2), .val (.int p3), .val (.int ee), .val (.int wg), .val (.int md), .val (.int ss), .val (.int (0 : Int32)), .val (.ref b40), .val (.int (0 : Int32)), .val (.int (0 : Int32)), .val (.int (0 : Int32)), .unset, .unset] [(.int ss), (.ref b40)])) _
          refine XS.iconst X46.here hx rfl (hb hby at_222) ?_
          show Steps p.tables e below (T46.setTop (mkF m 223 #[.val (.int p0), .val (.int p1), .val (.int p2), .val (.int p3), .val (.int ee), .val (.int wg), .val (.int md), .val (.int ss), .val (.int (0 : Int32)), .val (.ref b40), .val (.int (0 : Int32)), .val (.int (0 : Int32)), .val (.int (0 : Int32)), .unset, .unset] [(.int (1 : Int32)), (.int ss), (.ref b40)])) _
          refine XS.iadd X46.here hx rfl (hb hby at_223) rfl ?_
          show Steps p.tables e below (T46.setTop (mkF m 224 #[.val (.int p0), .val (.int p1), .val (.int p2), .val (.int p3), .val (.int ee), .val (.int wg), .val (.int md), .val (.int ss), .val (.int (0 : Int32)), .val (.ref b40), .val (.int (0 : Int32)), .val (.int (0 : Int32)), .val (.int (0 : Int32)), .unset, .unset] [(.int (ss + (1 : Int32))), (.ref b40)])) _
          refine XS.iconst X46.here hx rfl (hb hby at_224) ?_
          show Steps p.tables e below (T46.setTop (mkF m 225 #[.val (.int p0), .val (.int p1), .val (.int p2), .val (.int p3), .val (.int ee), .val (.int wg), .val (.int md), .val (.int ss), .val (.int (0 : Int32)), .val (.ref b40), .val (.int (0 : Int32)), .val (.int (0 : Int32)), .val (.int (0 : Int32)), .unset, .unset] [(.int (0 : Int32)), (.int (ss + (1 : Int32))), (.ref b40)])) _
          refine st66.trans ?_
          show Steps p.tables e below (T66.setTop (mkF m 228 #[.val (.int p0), .val (.int p1), .val (.int p2), .val (.int p3), .val (.int ee), .val (.int wg), .val (.int md), .val (.int ss), .val (.int (0 : Int32)), .val (.ref b40), .val (.int (0 : Int32)), .val (.int (0 : Int32)), .val (.int (0 : Int32)), .unset, .unset] [(.ref ug)])) _
          refine XS.astore X66.here hx rfl (hb hby at_228) rfl rfl (l' := #[.val (.int p0), .val (.int p1), .val (.int p2), .val (.int p3), .val (.int ee), .val (.int wg), .val (.int md), .val (.int ss), .val (.int (0 : Int32)), .val (.ref b40), .val (.int (0 : Int32)), .val (.int (0 : Int32)), .val (.int (0 : Int32)), .val (.ref ug), .unset]) rfl ?_
          show Steps p.tables e below (T66.setTop (mkF m 230 #[.val (.int p0), .val (.int p1), .val (.int p2), .val (.int p3), .val (.int ee), .val (.int wg), .val (.int md), .val (.int ss), .val (.int (0 : Int32)), .val (.ref b40), .val (.int (0 : Int32)), .val (.int (0 : Int32)), .val (.int (0 : Int32)), .val (.ref ug), .unset] [])) _
          refine XS.iload X66.here hx rfl (hb hby at_230) rfl ?_
          show Steps p.tables e below (T66.setTop (mkF m 232 #[.val (.int p0), .val (.int p1), .val (.int p2), .val (.int p3), .val (.int ee), .val (.int wg), .val (.int md), .val (.int ss), .val (.int (0 : Int32)), .val (.ref b40), .val (.int (0 : Int32)), .val (.int (0 : Int32)), .val (.int (0 : Int32)), .val (.ref ug), .unset] [(.int (0 : Int32))])) _
          refine XS.ifYes X66.here hx rfl (pc0 := 232) (pc' := 241) rfl (hb hby at_232) rfl ((if0 _ _).trans (teq (by decide : (0 : Int32) = (0 : Int32))).1) (by decide) (by decide) ?_
          show Steps p.tables e below (T66.setTop (mkF m 241 #[.val (.int p0), .val (.int p1), .val (.int p2), .val (.int p3), .val (.int ee), .val (.int wg), .val (.int md), .val (.int ss), .val (.int (0 : Int32)), .val (.ref b40), .val (.int (0 : Int32)), .val (.int (0 : Int32)), .val (.int (0 : Int32)), .val (.ref ug), .unset] [])) _
          refine st69 _ ?_
          show Steps p.tables e below (T69.setTop (mkF m 244 #[.val (.int p0), .val (.int p1), .val (.int p2), .val (.int p3), .val (.int ee), .val (.int wg), .val (.int md), .val (.int ss), .val (.int (0 : Int32)), .val (.ref b40), .val (.int (0 : Int32)), .val (.int (0 : Int32)), .val (.int (0 : Int32)), .val (.ref ug), .unset] [(.ref ug)])) _
          refine XS.astore X69.here hx rfl (hb hby at_244) rfl rfl (l' := #[.val (.int p0), .val (.int p1), .val (.int p2), .val (.int p3), .val (.int ee), .val (.int wg), .val (.int md), .val (.int ss), .val (.int (0 : Int32)), .val (.ref b40), .val (.int (0 : Int32)), .val (.int (0 : Int32)), .val (.int (0 : Int32)), .val (.ref ug), .val (.ref ug)]) rfl ?_
          show Steps p.tables e below (T69.setTop (mkF m 246 #[.val (.int p0), .val (.int p1), .val (.int p2), .val (.int p3), .val (.int ee), .val (.int wg), .val (.int md), .val (.int ss), .val (.int (0 : Int32)), .val (.ref b40), .val (.int (0 : Int32)), .val (.int (0 : Int32)), .val (.int (0 : Int32)), .val (.ref ug), .val (.ref ug)] [])) _
          refine XS.aload X69.here hx rfl (hb hby at_246) rfl rfl ?_
          show Steps p.tables e below (T69.setTop (mkF m 248 #[.val (.int p0), .val (.int p1), .val (.int p2), .val (.int p3), .val (.int ee), .val (.int wg), .val (.int md), .val (.int ss), .val (.int (0 : Int32)), .val (.ref b40), .val (.int (0 : Int32)), .val (.int (0 : Int32)), .val (.int (0 : Int32)), .val (.ref ug), .val (.ref ug)] [(.ref ug)])) _
          refine XS.aload X69.here hx rfl (hb hby at_248) rfl rfl ?_
          show Steps p.tables e below (T69.setTop (mkF m 250 #[.val (.int p0), .val (.int p1), .val (.int p2), .val (.int p3), .val (.int ee), .val (.int wg), .val (.int md), .val (.int ss), .val (.int (0 : Int32)), .val (.ref b40), .val (.int (0 : Int32)), .val (.int (0 : Int32)), .val (.int (0 : Int32)), .val (.ref ug), .val (.ref ug)] [(.ref ug), (.ref ug)])) _
          refine Jvm.RoadKit.acmp (g := (mkF m 250 #[.val (.int p0), .val (.int p1), .val (.int p2), .val (.int p3), .val (.int ee), .val (.int wg), .val (.int md), .val (.int ss), .val (.int (0 : Int32)), .val (.ref b40), .val (.int (0 : Int32)), .val (.int (0 : Int32)), .val (.int (0 : Int32)), .val (.ref ug), .val (.ref ug)] [(.ref ug), (.ref ug)])) X69 hx rfl rfl rfl (pc0 := 250) (pc' := 253) (same := true) rfl (hb hby at_250) rfl (decide_eq_true rfl) (by decide) (by decide) ?_
          show Steps p.tables e below (T69.setTop (mkF m 253 #[.val (.int p0), .val (.int p1), .val (.int p2), .val (.int p3), .val (.int ee), .val (.int wg), .val (.int md), .val (.int ss), .val (.int (0 : Int32)), .val (.ref b40), .val (.int (0 : Int32)), .val (.int (0 : Int32)), .val (.int (0 : Int32)), .val (.ref ug), .val (.ref ug)] [])) _
          refine XS.iconst X69.here hx rfl (hb hby at_253) ?_
          show Steps p.tables e below (T69.setTop (mkF m 254 #[.val (.int p0), .val (.int p1), .val (.int p2), .val (.int p3), .val (.int ee), .val (.int wg), .val (.int md), .val (.int ss), .val (.int (0 : Int32)), .val (.ref b40), .val (.int (0 : Int32)), .val (.int (0 : Int32)), .val (.int (0 : Int32)), .val (.ref ug), .val (.ref ug)] [(.int (1 : Int32))])) _
          refine XS.goto X69.here hx rfl (pc0 := 254) (pc' := 258) rfl (hb hby at_254) (by decide) (by decide) ?_
          exact k
        obtain ⟨fs, hrq, hrun, hended, hW, hsame⟩ := X69.leave (v := some (.int (1 : Int32))) (fun h => by rw [Bd.returns] at h; cases h)
        refine ⟨_, _, pre70 _ ?_, hrun, hended, _, _, rfl, ?_, ⟨_, rfl⟩, hW, hsame.mono (by decide) (by decide)⟩
        · show Steps p.tables e below (T69.setTop (mkF m 258 #[.val (.int p0), .val (.int p1), .val (.int p2), .val (.int p3), .val (.int ee), .val (.int wg), .val (.int md), .val (.int ss), .val (.int (0 : Int32)), .val (.ref b40), .val (.int (0 : Int32)), .val (.int (0 : Int32)), .val (.int (0 : Int32)), .val (.ref ug), .val (.ref ug)] [(.int (1 : Int32))])) _
          exact retN X69 hx (t := .boolean) Bd.returns (by simp) (hb hby at_258) hrq
        · show Q0 Z p0 p1 p2 p3 ug ua h0 n0 _ T69.heap _
          rw [e69]
          exact ⟨rfl, N66⟩
  · obtain ⟨T71, h71, X71, e71, E71, A71, D71, -, st71⟩ := newO X32 hx hZ hown (hw _ (List.mem_of_getElem? (i := 7) rfl)) (hw _ (List.mem_of_getElem? (i := 8) rfl)) (hw _ (List.mem_of_getElem? (i := 9) rfl)) e32 (g := (mkF m 118 #[.val (.int p0), .val (.int p1), .val (.int p2), .val (.int p3), .val (.int ee), .val (.int wg), .val (.int md), .val (.int ss), .val (.int (1 : Int32)), .unset, .unset, .unset, .unset, .unset, .unset] [])) rfl (hb hby at_118) (by decide) (by decide)
    obtain ⟨b71, g71⟩ : ∃ z, z = h0.size := ⟨_, rfl⟩
    rw [← g71] at A71 D71 st71
    have g_b71 : n0 ≤ b71 := Nat.le_trans Z0 (Nat.le_of_eq g71.symm)
    have Z72 : n0 ≤ h71.size := Nat.le_trans Z0 E71.1
    have F_expected_b71 : Fld Z h71 b71 "com/example/depthwire/depthwire/InboundSeqNums" "expected" "I" (.int (0 : Int32)) := D71 (Or.inl (hw _ (List.mem_of_getElem? (i := 17) rfl))) (ty := .int) (by decide)
    have F_askedUpTo_b71 : Fld Z h71 b71 "com/example/depthwire/depthwire/InboundSeqNums" "askedUpTo" "I" (.int (0 : Int32)) := D71 (Or.inl (hw _ (List.mem_of_getElem? (i := 24) rfl))) (ty := .int) (by decide)
    obtain ⟨_, _, ⟨T73, L73, k73, n73⟩, -, X73, ⟨Lc73, hQ73, l73, y73, z73⟩, st73⟩ := X71.specialBack hx (y := (⟨"com/example/depthwire/depthwire/InboundSeqNums", "<init>", "(I)V"⟩ : MethodName)) rfl hown (mvT hZ (hw _ (List.mem_of_getElem? (i := 10) rfl))) (mvT hZ (hw _ (List.mem_of_getElem? (i := 11) rfl))) (mvT hZ (hw _ (List.mem_of_getElem? (i := 12) rfl))) (by decide) (backOf (W := 1) (rm3 l Z a0 hw [] b71 ee h71 n0 Z72 A71 F_expected_b71 F_askedUpTo_b71 g_b71) hZ (hw _ (List.mem_of_getElem? (i := 12) rfl)) (hw _ (List.mem_of_getElem? (i := 9) rfl)) (by decide) (by decide)) (g := (mkF m 124 #[.val (.int p0), .val (.int p1), .val (.int p2), .val (.int p3), .val (.int ee), .val (.int wg), .val (.int md), .val (.int ss), .val (.int (1 : Int32)), .unset, .unset, .unset, .unset, .unset, .unset] [(.int ee), (.ref b71), (.ref b71)])) rfl (by rw [hml]; rfl) (Steps.refl _) (a := b71) (argsL := [(.int ee)]) (rest := [(.ref b71)]) (lenOf pd_1 rfl) rfl (by show 2 * 0 + _ ≤ _; exact Nat.le_of_eq rfl) (hb hby at_124) (fun _ _ => ⟨rfl, e71, (by decide : 1 + 0 ≤ _), (by decide : 2 + 0 ≤ _)⟩)
    dsimp only [Pt.U, Pt.locs, Pt.cells, Pt.slots] at X73 l73 y73 z73 st73 hQ73
    subst l73 y73 z73
    obtain ⟨rfl, Nq73, Kq73, Eq73, Fe73, Fa73⟩ := hQ73
    have N73 := Fr.app N32 Nq73
    have Z74 : n0 ≤ T73.heap.size := Nat.le_trans Z72 Kq73.1
    have c75 : Sta Z T73.heap "com/example/depthwire/depthwire/InboundSeqNums$Verdict" "GAP" "Lcom/example/depthwire/depthwire/InboundSeqNums$Verdict;" (.ref ug) := (own_sta_keep (S_g.ext E71) Kq73 (allS (own_plain_exa A71) all0))
    have c76 : Sta Z T73.heap "com/example/depthwire/depthwire/InboundSeqNums$Verdict" "GAP_ASKED" "Lcom/example/depthwire/depthwire/InboundSeqNums$Verdict;" (.ref ua) := (own_sta_keep (S_a.ext E71) Kq73 (allS (own_plain_exa A71) all0))
    obtain ⟨cq77, kq77, q77a, q77b, q77c⟩ := isOf hZ rfl Eq73
    obtain ⟨_, _, ⟨T77, L77, k77, n77⟩, -, X77, ⟨Lc77, hQ77, l77, y77, z77⟩, st77⟩ := X73.virtualBack hx (y := (⟨"com/example/depthwire/depthwire/InboundSeqNums", "receive", "(IZ)Lcom/example/depthwire/depthwire/InboundSeqNums$Verdict;"⟩ : MethodName)) (z := (⟨"com/example/depthwire/depthwire/InboundSeqNums", "receive", "(IZ)Lcom/example/depthwire/depthwire/InboundSeqNums$Verdict;"⟩ : MethodName)) hown (mvT hZ (hw _ (List.mem_of_getElem? (i := 18) rfl))) (mvT hZ (hw _ (List.mem_of_getElem? (i := 19) rfl))) (notFace_of_selects (args := #[]) (mvT hZ (hw _ (List.mem_of_getElem? (i := 21) rfl)))) (mvT hZ (hw _ (List.mem_of_getElem? (i := 21) rfl))) (mvT hZ (hw _ (List.mem_of_getElem? (i := 20) rfl))) (by decide) (backOf (W := 0) (rm5 l Z a0 hw [] b71 p2 (0 : Int32) ee (0 : Int32) ug ua ug T73.heap n0 Z74 Eq73 Fe73 Fa73 g_b71 c75 c76 hg (if_neg (by decide))) hZ (hw _ (List.mem_of_getElem? (i := 22) rfl)) (hw _ (List.mem_of_getElem? (i := 9) rfl)) (by decide) (by decide)) q77a q77c (g := (mkF m 141 #[.val (.int p0), .val (.int p1), .val (.int p2), .val (.int p3), .val (.int ee), .val (.int wg), .val (.int md), .val (.int ss), .val (.int (1 : Int32)), .val (.ref b71), .val (.int (0 : Int32)), .unset, .unset, .unset, .unset] [(.int (0 : Int32)), (.int p2), (.ref b71)])) rfl (by rw [hml]; rfl) (Steps.refl _) (argsL := [(.int p2), (.int (0 : Int32))]) (rest := []) (lenOf pd_3 rfl) rfl (by show 2 * 0 + _ ≤ _; exact Nat.le_of_eq rfl) (hb hby at_141) (fun _ _ => ⟨rfl, rfl, (by decide : 1 + 0 ≤ _), (by decide : 2 + 0 ≤ _)⟩)
    dsimp only [Pt.U, Pt.locs, Pt.cells, Pt.slots] at X77 l77 y77 z77 st77 hQ77
    subst l77 y77 z77
    obtain ⟨rfl, Nq77, Kq77, Eq77, Fe77, Fa77⟩ := hQ77
    have N77 := Fr.app N73 Nq77
    have Z78 : n0 ≤ T77.heap.size := Nat.le_trans Z74 Kq77.1
    have c79 : Sta Z T77.heap "com/example/depthwire/depthwire/InboundSeqNums$Verdict" "GAP" "Lcom/example/depthwire/depthwire/InboundSeqNums$Verdict;" (.ref ug) := (own_sta_keep c75 Kq77 (allS (own_plain_exa Eq73) all0))
    obtain ⟨T80, X80, e80, st80⟩ := getS2 X77 hx hZ hown (host := "") (Or.inl (hw _ (List.mem_of_getElem? (i := 29) rfl))) Via.refl rfl c79 (g := (mkF m 148 #[.val (.int p0), .val (.int p1), .val (.int p2), .val (.int p3), .val (.int ee), .val (.int wg), .val (.int md), .val (.int ss), .val (.int (1 : Int32)), .val (.ref b71), .val (.int (0 : Int32)), .val (.ref ug), .unset, .unset, .unset] [(.ref ug)])) rfl (hb hby at_148)
    obtain ⟨_, _, ⟨T81, L81, k81, n81⟩, -, X81, ⟨Lc81, hQ81, l81, y81, z81⟩, st81⟩ := Jvm.LawKit.callS X80 hx (y := (⟨"java/lang/Math", "max", "(II)I"⟩ : MethodName)) hown (mvT hZ (hw _ (List.mem_of_getElem? (i := 4) rfl))) (mvT hZ (hw _ (List.mem_of_getElem? (i := 5) rfl))) (mvT hZ (hw _ (List.mem_of_getElem? (i := 2) rfl))) (mvT hZ (hw _ (List.mem_of_getElem? (i := 6) rfl))) (by decide) (backOf (W := 0) (rm2 l Z a0 hw [] (0 : Int32) p2 T77.heap n0 Z78 ) hZ (hw _ (List.mem_of_getElem? (i := 6) rfl)) (hw _ (List.mem_of_getElem? (i := 2) rfl)) (by decide) (by decide)) (g := (mkF m 158 #[.val (.int p0), .val (.int p1), .val (.int p2), .val (.int p3), .val (.int ee), .val (.int wg), .val (.int md), .val (.int ss), .val (.int (1 : Int32)), .val (.ref b71), .val (.int (0 : Int32)), .val (.ref ug), .unset, .unset, .unset] [(.int p2), (.int (0 : Int32))])) rfl (by rw [hml]; rfl) (argsL := [(.int (0 : Int32)), (.int p2)]) (rest := []) (lenOf pd_0 rfl) rfl (by show 2 * 0 + _ ≤ _; exact Nat.le_of_eq rfl) (hb hby at_158) (fun _ _ => ⟨rfl, e80, (by decide : 1 + 0 ≤ _), (by decide : 2 + 0 ≤ _)⟩)
    dsimp only [Pt.U, Pt.locs, Pt.cells, Pt.slots] at X81 l81 y81 z81 st81 hQ81
    subst l81 y81 z81
    obtain ⟨rfl, Nq81, hh81⟩ := hQ81
    have N81 := Fr.app N77 Nq81
    have e81 : T81.heap = T77.heap := hh81
    obtain ⟨cq82, kq82, q82a, q82b, q82c⟩ := isOf hZ e81 Eq77
    obtain ⟨_, _, ⟨T82, L82, k82, n82⟩, -, X82, ⟨Lc82, hQ82, l82, y82, z82⟩, st82⟩ := X81.virtualBack hx (y := (⟨"com/example/depthwire/depthwire/InboundSeqNums", "moveTo", "(I)V"⟩ : MethodName)) (z := (⟨"com/example/depthwire/depthwire/InboundSeqNums", "moveTo", "(I)V"⟩ : MethodName)) hown (mvT hZ (hw _ (List.mem_of_getElem? (i := 30) rfl))) (mvT hZ (hw _ (List.mem_of_getElem? (i := 31) rfl))) (notFace_of_selects (args := #[]) (mvT hZ (hw _ (List.mem_of_getElem? (i := 33) rfl)))) (mvT hZ (hw _ (List.mem_of_getElem? (i := 33) rfl))) (mvT hZ (hw _ (List.mem_of_getElem? (i := 32) rfl))) (by decide) (backOf (W := 0) (rm6 l Z a0 hw [] b71 ss ee (if (0 : Int32) < p2 then p2 else (0 : Int32)) T77.heap n0 Z78 Eq77 Fe77 Fa77 g_b71) hZ (hw _ (List.mem_of_getElem? (i := 34) rfl)) (hw _ (List.mem_of_getElem? (i := 9) rfl)) (by decide) (by decide)) q82a q82c (g := (mkF m 167 #[.val (.int p0), .val (.int p1), .val (.int p2), .val (.int p3), .val (.int ee), .val (.int wg), .val (.int md), .val (.int ss), .val (.int (1 : Int32)), .val (.ref b71), .val (.int (if (0 : Int32) < p2 then p2 else (0 : Int32))), .val (.ref ug), .unset, .unset, .unset] [(.int ss), (.ref b71)])) rfl (by rw [hml]; rfl) (Steps.refl _) (argsL := [(.int ss)]) (rest := []) (lenOf pd_1 rfl) rfl (by show 2 * 0 + _ ≤ _; exact Nat.le_of_eq rfl) (hb hby at_167) (fun _ _ => ⟨rfl, e81, (by decide : 1 + 0 ≤ _), (by decide : 2 + 0 ≤ _)⟩)
    dsimp only [Pt.U, Pt.locs, Pt.cells, Pt.slots] at X82 l82 y82 z82 st82 hQ82
    subst l82 y82 z82
    obtain ⟨rfl, Nq82, Kq82, Eq82, Fe82, Fa82⟩ := hQ82
    have N82 := Fr.app N81 Nq82
    have Z83 : n0 ≤ T82.heap.size := Nat.le_trans Z78 Kq82.1
    obtain ⟨cq84, kq84, q84a, q84b, q84c⟩ := isOf hZ rfl Eq82
    obtain ⟨_, _, ⟨T84, L84, k84, n84⟩, -, X84, ⟨Lc84, hQ84, l84, y84, z84⟩, st84⟩ := X82.virtualBack hx (y := (⟨"com/example/depthwire/depthwire/InboundSeqNums", "expected", "()I"⟩ : MethodName)) (z := (⟨"com/example/depthwire/depthwire/InboundSeqNums", "expected", "()I"⟩ : MethodName)) hown (mvT hZ (hw _ (List.mem_of_getElem? (i := 35) rfl))) (mvT hZ (hw _ (List.mem_of_getElem? (i := 36) rfl))) (notFace_of_selects (args := #[]) (mvT hZ (hw _ (List.mem_of_getElem? (i := 38) rfl)))) (mvT hZ (hw _ (List.mem_of_getElem? (i := 38) rfl))) (mvT hZ (hw _ (List.mem_of_getElem? (i := 37) rfl))) (by decide) (backOf (W := 0) (rm7 l Z a0 hw [] b71 ss T82.heap n0 Z83 Fe82) hZ (hw _ (List.mem_of_getElem? (i := 39) rfl)) (hw _ (List.mem_of_getElem? (i := 9) rfl)) (by decide) (by decide)) q84a q84c (g := (mkF m 172 #[.val (.int p0), .val (.int p1), .val (.int p2), .val (.int p3), .val (.int ee), .val (.int wg), .val (.int md), .val (.int ss), .val (.int (1 : Int32)), .val (.ref b71), .val (.int (if (0 : Int32) < p2 then p2 else (0 : Int32))), .val (.ref ug), .unset, .unset, .unset] [(.ref b71)])) rfl (by rw [hml]; rfl) (Steps.refl _) (argsL := []) (rest := []) (lenOf pd_2 rfl) rfl (by show 2 * 0 + _ ≤ _; exact Nat.le_of_eq rfl) (hb hby at_172) (fun _ _ => ⟨rfl, rfl, (by decide : 1 + 0 ≤ _), (by decide : 2 + 0 ≤ _)⟩)
    dsimp only [Pt.U, Pt.locs, Pt.cells, Pt.slots] at X84 l84 y84 z84 st84 hQ84
    subst l84 y84 z84
    obtain ⟨rfl, Nq84, hh84⟩ := hQ84
    have N84 := Fr.app N82 Nq84
    have e84 : T84.heap = T82.heap := hh84
    have pre85 : ∀ t, Steps p.tables e below (T84.setTop (mkF m 186 #[.val (.int p0), .val (.int p1), .val (.int p2), .val (.int p3), .val (.int ee), .val (.int wg), .val (.int md), .val (.int ss), .val (.int (1 : Int32)), .val (.ref b71), .val (.int (if (0 : Int32) < p2 then p2 else (0 : Int32))), .val (.ref ug), .unset, .unset, .unset] [(.int (if (0 : Int32) < p2 then p2 else (0 : Int32))), (.int ss)])) t → Steps p.tables e below (s₁.setTop (entryFrame m #[(.int p0), (.int p1), (.int p2), (.int p3)] maxLocals)) t := fun t k => by
      refine pre32 t ?_
      show Steps p.tables e below (T32.setTop (mkF m 116 #[.val (.int p0), .val (.int p1), .val (.int p2), .val (.int p3), .val (.int ee), .val (.int wg), .val (.int md), .val (.int ss), .unset, .unset, .unset, .unset, .unset, .unset, .unset] [(.int (1 : Int32))])) _
      refine XS.istore X32.here hx rfl (hb hby at_116) rfl (l' := #[.val (.int p0), .val (.int p1), .val (.int p2), .val (.int p3), .val (.int ee), .val (.int wg), .val (.int md), .val (.int ss), .val (.int (1 : Int32)), .unset, .unset, .unset, .unset, .unset, .unset]) rfl ?_
      show Steps p.tables e below (T32.setTop (mkF m 118 #[.val (.int p0), .val (.int p1), .val (.int p2), .val (.int p3), .val (.int ee), .val (.int wg), .val (.int md), .val (.int ss), .val (.int (1 : Int32)), .unset, .unset, .unset, .unset, .unset, .unset] [])) _
      refine st71 _ ?_
      show Steps p.tables e below (T71.setTop (mkF m 121 #[.val (.int p0), .val (.int p1), .val (.int p2), .val (.int p3), .val (.int ee), .val (.int wg), .val (.int md), .val (.int ss), .val (.int (1 : Int32)), .unset, .unset, .unset, .unset, .unset, .unset] [(.ref b71)])) _
      refine XS.dup X71.here hx rfl (hb hby at_121) rfl rfl ?_
      show Steps p.tables e below (T71.setTop (mkF m 122 #[.val (.int p0), .val (.int p1), .val (.int p2), .val (.int p3), .val (.int ee), .val (.int wg), .val (.int md), .val (.int ss), .val (.int (1 : Int32)), .unset, .unset, .unset, .unset, .unset, .unset] [(.ref b71), (.ref b71)])) _
      refine XS.iload X71.here hx rfl (hb hby at_122) rfl ?_
      show Steps p.tables e below (T71.setTop (mkF m 124 #[.val (.int p0), .val (.int p1), .val (.int p2), .val (.int p3), .val (.int ee), .val (.int wg), .val (.int md), .val (.int ss), .val (.int (1 : Int32)), .unset, .unset, .unset, .unset, .unset, .unset] [(.int ee), (.ref b71), (.ref b71)])) _
      refine st73.trans ?_
      show Steps p.tables e below (T73.setTop (mkF m 127 #[.val (.int p0), .val (.int p1), .val (.int p2), .val (.int p3), .val (.int ee), .val (.int wg), .val (.int md), .val (.int ss), .val (.int (1 : Int32)), .unset, .unset, .unset, .unset, .unset, .unset] [(.ref b71)])) _
      refine XS.astore X73.here hx rfl (hb hby at_127) rfl rfl (l' := #[.val (.int p0), .val (.int p1), .val (.int p2), .val (.int p3), .val (.int ee), .val (.int wg), .val (.int md), .val (.int ss), .val (.int (1 : Int32)), .val (.ref b71), .unset, .unset, .unset, .unset, .unset]) rfl ?_
      show Steps p.tables e below (T73.setTop (mkF m 129 #[.val (.int p0), .val (.int p1), .val (.int p2), .val (.int p3), .val (.int ee), .val (.int wg), .val (.int md), .val (.int ss), .val (.int (1 : Int32)), .val (.ref b71), .unset, .unset, .unset, .unset, .unset] [])) _
      refine XS.iconst X73.here hx rfl (hb hby at_129) ?_
      show Steps p.tables e below (T73.setTop (mkF m 130 #[.val (.int p0), .val (.int p1), .val (.int p2), .val (.int p3), .val (.int ee), .val (.int wg), .val (.int md), .val (.int ss), .val (.int (1 : Int32)), .val (.ref b71), .unset, .unset, .unset, .unset, .unset] [(.int (0 : Int32))])) _
      refine XS.istore X73.here hx rfl (hb hby at_130) rfl (l' := #[.val (.int p0), .val (.int p1), .val (.int p2), .val (.int p3), .val (.int ee), .val (.int wg), .val (.int md), .val (.int ss), .val (.int (1 : Int32)), .val (.ref b71), .val (.int (0 : Int32)), .unset, .unset, .unset, .unset]) rfl ?_
      show Steps p.tables e below (T73.setTop (mkF m 132 #[.val (.int p0), .val (.int p1), .val (.int p2), .val (.int p3), .val (.int ee), .val (.int wg), .val (.int md), .val (.int ss), .val (.int (1 : Int32)), .val (.ref b71), .val (.int (0 : Int32)), .unset, .unset, .unset, .unset] [])) _
      refine XS.iload X73.here hx rfl (hb hby at_132) rfl ?_
      show Steps p.tables e below (T73.setTop (mkF m 134 #[.val (.int p0), .val (.int p1), .val (.int p2), .val (.int p3), .val (.int ee), .val (.int wg), .val (.int md), .val (.int ss), .val (.int (1 : Int32)), .val (.ref b71), .val (.int (0 : Int32)), .unset, .unset, .unset, .unset] [(.int (1 : Int32))])) _
      refine XS.ifNo X73.here hx rfl (hb hby at_134) rfl ((if0 _ _).trans (feq (by decide : ¬ ((1 : Int32) = (0 : Int32)))).1) ?_
      show Steps p.tables e below (T73.setTop (mkF m 137 #[.val (.int p0), .val (.int p1), .val (.int p2), .val (.int p3), .val (.int ee), .val (.int wg), .val (.int md), .val (.int ss), .val (.int (1 : Int32)), .val (.ref b71), .val (.int (0 : Int32)), .unset, .unset, .unset, .unset] [])) _
      refine XS.aload X73.here hx rfl (hb hby at_137) rfl rfl ?_
      show Steps p.tables e below (T73.setTop (mkF m 139 #[.val (.int p0), .val (.int p1), .val (.int p2), .val (.int p3), .val (.int ee), .val (.int wg), .val (.int md), .val (.int ss), .val (.int (1 : Int32)), .val (.ref b71), .val (.int (0 : Int32)), .unset, .unset, .unset, .unset] [(.ref b71)])) _
      refine XS.iloadN X73.here hx rfl (hb hby at_139) rfl ?_
      show Steps p.tables e below (T73.setTop (mkF m 140 #[.val (.int p0), .val (.int p1), .val (.int p2), .val (.int p3), .val (.int ee), .val (.int wg), .val (.int md), .val (.int ss), .val (.int (1 : Int32)), .val (.ref b71), .val (.int (0 : Int32)), .unset, .unset, .unset, .unset] [(.int p2), (.ref b71)])) _
      refine XS.iconst X73.here hx rfl (hb hby at_140) ?_
      show Steps p.tables e below (T73.setTop (mkF m 141 #[.val (.int p0), .val (.int p1), .val (.int p2), .val (.int p3), .val (.int ee), .val (.int wg), .val (.int md), .val (.int ss), .val (.int (1 : Int32)), .val (.ref b71), .val (.int (0 : Int32)), .unset, .unset, .unset, .unset] [(.int (0 : Int32)), (.int p2), (.ref b71)])) _
      refine st77.trans ?_
      show Steps p.tables e below (T77.setTop (mkF m 144 #[.val (.int p0), .val (.int p1), .val (.int p2), .val (.int p3), .val (.int ee), .val (.int wg), .val (.int md), .val (.int ss), .val (.int (1 : Int32)), .val (.ref b71), .val (.int (0 : Int32)), .unset, .unset, .unset, .unset] [(.ref ug)])) _
      refine XS.astore X77.here hx rfl (hb hby at_144) rfl rfl (l' := #[.val (.int p0), .val (.int p1), .val (.int p2), .val (.int p3), .val (.int ee), .val (.int wg), .val (.int md), .val (.int ss), .val (.int (1 : Int32)), .val (.ref b71), .val (.int (0 : Int32)), .val (.ref ug), .unset, .unset, .unset]) rfl ?_
      show Steps p.tables e below (T77.setTop (mkF m 146 #[.val (.int p0), .val (.int p1), .val (.int p2), .val (.int p3), .val (.int ee), .val (.int wg), .val (.int md), .val (.int ss), .val (.int (1 : Int32)), .val (.ref b71), .val (.int (0 : Int32)), .val (.ref ug), .unset, .unset, .unset] [])) _
      refine XS.aload X77.here hx rfl (hb hby at_146) rfl rfl ?_
      show Steps p.tables e below (T77.setTop (mkF m 148 #[.val (.int p0), .val (.int p1), .val (.int p2), .val (.int p3), .val (.int ee), .val (.int wg), .val (.int md), .val (.int ss), .val (.int (1 : Int32)), .val (.ref b71), .val (.int (0 : Int32)), .val (.ref ug), .unset, .unset, .unset] [(.ref ug)])) _
      refine st80 _ ?_
      show Steps p.tables e below (T80.setTop (mkF m 151 #[.val (.int p0), .val (.int p1), .val (.int p2), .val (.int p3), .val (.int ee), .val (.int wg), .val (.int md), .val (.int ss), .val (.int (1 : Int32)), .val (.ref b71), .val (.int (0 : Int32)), .val (.ref ug), .unset, .unset, .unset] [(.ref ug), (.ref ug)])) _
      refine Jvm.RoadKit.acmp (g := (mkF m 151 #[.val (.int p0), .val (.int p1), .val (.int p2), .val (.int p3), .val (.int ee), .val (.int wg), .val (.int md), .val (.int ss), .val (.int (1 : Int32)), .val (.ref b71), .val (.int (0 : Int32)), .val (.ref ug), .unset, .unset, .unset] [(.ref ug), (.ref ug)])) X80 hx rfl rfl rfl (pc0 := 151) (pc' := 156) (same := true) rfl (hb hby at_151) rfl (decide_eq_true rfl) (by decide) (by decide) ?_
      show Steps p.tables e below (T80.setTop (mkF m 156 #[.val (.int p0), .val (.int p1), .val (.int p2), .val (.int p3), .val (.int ee), .val (.int wg), .val (.int md), .val (.int ss), .val (.int (1 : Int32)), .val (.ref b71), .val (.int (0 : Int32)), .val (.ref ug), .unset, .unset, .unset] [])) _
      refine XS.iconst X80.here hx rfl (hb hby at_156) ?_
      show Steps p.tables e below (T80.setTop (mkF m 157 #[.val (.int p0), .val (.int p1), .val (.int p2), .val (.int p3), .val (.int ee), .val (.int wg), .val (.int md), .val (.int ss), .val (.int (1 : Int32)), .val (.ref b71), .val (.int (0 : Int32)), .val (.ref ug), .unset, .unset, .unset] [(.int (0 : Int32))])) _
      refine XS.iloadN X80.here hx rfl (hb hby at_157) rfl ?_
      show Steps p.tables e below (T80.setTop (mkF m 158 #[.val (.int p0), .val (.int p1), .val (.int p2), .val (.int p3), .val (.int ee), .val (.int wg), .val (.int md), .val (.int ss), .val (.int (1 : Int32)), .val (.ref b71), .val (.int (0 : Int32)), .val (.ref ug), .unset, .unset, .unset] [(.int p2), (.int (0 : Int32))])) _
      refine st81 _ ?_
      show Steps p.tables e below (T81.setTop (mkF m 161 #[.val (.int p0), .val (.int p1), .val (.int p2), .val (.int p3), .val (.int ee), .val (.int wg), .val (.int md), .val (.int ss), .val (.int (1 : Int32)), .val (.ref b71), .val (.int (0 : Int32)), .val (.ref ug), .unset, .unset, .unset] [(.int (if (0 : Int32) < p2 then p2 else (0 : Int32)))])) _
      refine XS.istore X81.here hx rfl (hb hby at_161) rfl (l' := #[.val (.int p0), .val (.int p1), .val (.int p2), .val (.int p3), .val (.int ee), .val (.int wg), .val (.int md), .val (.int ss), .val (.int (1 : Int32)), .val (.ref b71), .val (.int (if (0 : Int32) < p2 then p2 else (0 : Int32))), .val (.ref ug), .unset, .unset, .unset]) rfl ?_
      show Steps p.tables e below (T81.setTop (mkF m 163 #[.val (.int p0), .val (.int p1), .val (.int p2), .val (.int p3), .val (.int ee), .val (.int wg), .val (.int md), .val (.int ss), .val (.int (1 : Int32)), .val (.ref b71), .val (.int (if (0 : Int32) < p2 then p2 else (0 : Int32))), .val (.ref ug), .unset, .unset, .unset] [])) _
      refine XS.aload X81.here hx rfl (hb hby at_163) rfl rfl ?_
      show Steps p.tables e below (T81.setTop (mkF m 165 #[.val (.int p0), .val (.int p1), .val (.int p2), .val (.int p3), .val (.int ee), .val (.int wg), .val (.int md), .val (.int ss), .val (.int (1 : Int32)), .val (.ref b71), .val (.int (if (0 : Int32) < p2 then p2 else (0 : Int32))), .val (.ref ug), .unset, .unset, .unset] [(.ref b71)])) _
      refine XS.iload X81.here hx rfl (hb hby at_165) rfl ?_
      show Steps p.tables e below (T81.setTop (mkF m 167 #[.val (.int p0), .val (.int p1), .val (.int p2), .val (.int p3), .val (.int ee), .val (.int wg), .val (.int md), .val (.int ss), .val (.int (1 : Int32)), .val (.ref b71), .val (.int (if (0 : Int32) < p2 then p2 else (0 : Int32))), .val (.ref ug), .unset, .unset, .unset] [(.int ss), (.ref b71)])) _
      refine st82.trans ?_
      show Steps p.tables e below (T82.setTop (mkF m 170 #[.val (.int p0), .val (.int p1), .val (.int p2), .val (.int p3), .val (.int ee), .val (.int wg), .val (.int md), .val (.int ss), .val (.int (1 : Int32)), .val (.ref b71), .val (.int (if (0 : Int32) < p2 then p2 else (0 : Int32))), .val (.ref ug), .unset, .unset, .unset] [])) _
      refine XS.aload X82.here hx rfl (hb hby at_170) rfl rfl ?_
      show Steps p.tables e below (T82.setTop (mkF m 172 #[.val (.int p0), .val (.int p1), .val (.int p2), .val (.int p3), .val (.int ee), .val (.int wg), .val (.int md), .val (.int ss), .val (.int (1 : Int32)), .val (.ref b71), .val (.int (if (0 : Int32) < p2 then p2 else (0 : Int32))), .val (.ref ug), .unset, .unset, .unset] [(.ref b71)])) _
      refine st84.trans ?_
      show Steps p.tables e below (T84.setTop (mkF m 175 #[.val (.int p0), .val (.int p1), .val (.int p2), .val (.int p3), .val (.int ee), .val (.int wg), .val (.int md), .val (.int ss), .val (.int (1 : Int32)), .val (.ref b71), .val (.int (if (0 : Int32) < p2 then p2 else (0 : Int32))), .val (.ref ug), .unset, .unset, .unset] [(.int ss)])) _
      refine XS.iload X84.here hx rfl (hb hby at_175) rfl ?_
      show Steps p.tables e below (T84.setTop (mkF m 177 #[.val (.int p0), .val (.int p1), .val (.int p2), .val (.int p3), .val (.int ee), .val (.int wg), .val (.int md), .val (.int ss), .val (.int (1 : Int32)), .val (.ref b71), .val (.int (if (0 : Int32) < p2 then p2 else (0 : Int32))), .val (.ref ug), .unset, .unset, .unset] [(.int ss), (.int ss)])) _
      refine XS.icmpYes X84.here hx rfl (pc0 := 177) (pc' := 182) rfl (hb hby at_177) rfl (teq (rfl : ss = ss)).1 (by decide) (by decide) ?_
      show Steps p.tables e below (T84.setTop (mkF m 182 #[.val (.int p0), .val (.int p1), .val (.int p2), .val (.int p3), .val (.int ee), .val (.int wg), .val (.int md), .val (.int ss), .val (.int (1 : Int32)), .val (.ref b71), .val (.int (if (0 : Int32) < p2 then p2 else (0 : Int32))), .val (.ref ug), .unset, .unset, .unset] [])) _
      refine XS.iload X84.here hx rfl (hb hby at_182) rfl ?_
      show Steps p.tables e below (T84.setTop (mkF m 184 #[.val (.int p0), .val (.int p1), .val (.int p2), .val (.int p3), .val (.int ee), .val (.int wg), .val (.int md), .val (.int ss), .val (.int (1 : Int32)), .val (.ref b71), .val (.int (if (0 : Int32) < p2 then p2 else (0 : Int32))), .val (.ref ug), .unset, .unset, .unset] [(.int ss)])) _
      refine XS.iload X84.here hx rfl (hb hby at_184) rfl ?_
      exact k
    by_cases hc186_86 : (if (0 : Int32) < p2 then p2 else (0 : Int32)) < ss
    · have Fx87 : Fld Z T82.heap b71 "com/example/depthwire/depthwire/InboundSeqNums" "askedUpTo" "I" (.int (0 : Int32)) := by rw [if_pos hc186_86] at Fa82; exact Fa82
      have pre88 : ∀ t, Steps p.tables e below (T84.setTop (mkF m 213 #[.val (.int p0), .val (.int p1), .val (.int p2), .val (.int p3), .val (.int ee), .val (.int wg), .val (.int md), .val (.int ss), .val (.int (1 : Int32)), .val (.ref b71), .val (.int (if (0 : Int32) < p2 then p2 else (0 : Int32))), .val (.int (0 : Int32)), .val (.int (0 : Int32)), .unset, .unset] [(.int (2147483647 : Int32)), (.int ss)])) t → Steps p.tables e below (s₁.setTop (entryFrame m #[(.int p0), (.int p1), (.int p2), (.int p3)] maxLocals)) t := fun t k => by
        refine pre85 t ?_
        show Steps p.tables e below (T84.setTop (mkF m 186 #[.val (.int p0), .val (.int p1), .val (.int p2), .val (.int p3), .val (.int ee), .val (.int wg), .val (.int md), .val (.int ss), .val (.int (1 : Int32)), .val (.ref b71), .val (.int (if (0 : Int32) < p2 then p2 else (0 : Int32))), .val (.ref ug), .unset, .unset, .unset] [(.int (if (0 : Int32) < p2 then p2 else (0 : Int32))), (.int ss)])) _
        refine XS.icmpNo X84.here hx rfl (hb hby at_186) rfl (tlt hc186_86).2.2.2 ?_
        show Steps p.tables e below (T84.setTop (mkF m 189 #[.val (.int p0), .val (.int p1), .val (.int p2), .val (.int p3), .val (.int ee), .val (.int wg), .val (.int md), .val (.int ss), .val (.int (1 : Int32)), .val (.ref b71), .val (.int (if (0 : Int32) < p2 then p2 else (0 : Int32))), .val (.ref ug), .unset, .unset, .unset] [])) _
        refine XS.iconst X84.here hx rfl (hb hby at_189) ?_
        show Steps p.tables e below (T84.setTop (mkF m 190 #[.val (.int p0), .val (.int p1), .val (.int p2), .val (.int p3), .val (.int ee), .val (.int wg), .val (.int md), .val (.int ss), .val (.int (1 : Int32)), .val (.ref b71), .val (.int (if (0 : Int32) < p2 then p2 else (0 : Int32))), .val (.ref ug), .unset, .unset, .unset] [(.int (0 : Int32))])) _
        refine XS.goto X84.here hx rfl (pc0 := 190) (pc' := 195) rfl (hb hby at_190) (by decide) (by decide) ?_
        show Steps p.tables e below (T84.setTop (mkF m 195 #[.val (.int p0), .val (.int p1), .val (.int p2), .val (.int p3), .val (.int ee), .val (.int wg), .val (.int md), .val (.int ss), .val (.int (1 : Int32)), .val (.ref b71), .val (.int (if (0 : Int32) < p2 then p2 else (0 : Int32))), .val (.ref ug), .unset, .unset, .unset] [(.int (0 : Int32))])) _
        refine XS.istore X84.here hx rfl (hb hby at_195) rfl (l' := #[.val (.int p0), .val (.int p1), .val (.int p2), .val (.int p3), .val (.int ee), .val (.int wg), .val (.int md), .val (.int ss), .val (.int (1 : Int32)), .val (.ref b71), .val (.int (if (0 : Int32) < p2 then p2 else (0 : Int32))), .val (.int (0 : Int32)), .unset, .unset, .unset]) rfl ?_
        show Steps p.tables e below (T84.setTop (mkF m 197 #[.val (.int p0), .val (.int p1), .val (.int p2), .val (.int p3), .val (.int ee), .val (.int wg), .val (.int md), .val (.int ss), .val (.int (1 : Int32)), .val (.ref b71), .val (.int (if (0 : Int32) < p2 then p2 else (0 : Int32))), .val (.int (0 : Int32)), .unset, .unset, .unset] [])) _
        refine XS.iload X84.here hx rfl (hb hby at_197) rfl ?_
        show Steps p.tables e below (T84.setTop (mkF m 199 #[.val (.int p0), .val (.int p1), .val (.int p2), .val (.int p3), .val (.int ee), .val (.int wg), .val (.int md), .val (.int ss), .val (.int (1 : Int32)), .val (.ref b71), .val (.int (if (0 : Int32) < p2 then p2 else (0 : Int32))), .val (.int (0 : Int32)), .unset, .unset, .unset] [(.int (0 : Int32))])) _
        refine XS.ifYes X84.here hx rfl (pc0 := 199) (pc' := 206) rfl (hb hby at_199) rfl ((if0 _ _).trans (flt (by decide : ¬ ((0 : Int32) < (0 : Int32)))).2.2.2) (by decide) (by decide) ?_
        show Steps p.tables e below (T84.setTop (mkF m 206 #[.val (.int p0), .val (.int p1), .val (.int p2), .val (.int p3), .val (.int ee), .val (.int wg), .val (.int md), .val (.int ss), .val (.int (1 : Int32)), .val (.ref b71), .val (.int (if (0 : Int32) < p2 then p2 else (0 : Int32))), .val (.int (0 : Int32)), .unset, .unset, .unset] [])) _
        refine XS.iconst X84.here hx rfl (hb hby at_206) ?_
        show Steps p.tables e below (T84.setTop (mkF m 207 #[.val (.int p0), .val (.int p1), .val (.int p2), .val (.int p3), .val (.int ee), .val (.int wg), .val (.int md), .val (.int ss), .val (.int (1 : Int32)), .val (.ref b71), .val (.int (if (0 : Int32) < p2 then p2 else (0 : Int32))), .val (.int (0 : Int32)), .unset, .unset, .unset] [(.int (0 : Int32))])) _
        refine XS.istore X84.here hx rfl (hb hby at_207) rfl (l' := #[.val (.int p0), .val (.int p1), .val (.int p2), .val (.int p3), .val (.int ee), .val (.int wg), .val (.int md), .val (.int ss), .val (.int (1 : Int32)), .val (.ref b71), .val (.int (if (0 : Int32) < p2 then p2 else (0 : Int32))), .val (.int (0 : Int32)), .val (.int (0 : Int32)), .unset, .unset]) rfl ?_
        show Steps p.tables e below (T84.setTop (mkF m 209 #[.val (.int p0), .val (.int p1), .val (.int p2), .val (.int p3), .val (.int ee), .val (.int wg), .val (.int md), .val (.int ss), .val (.int (1 : Int32)), .val (.ref b71), .val (.int (if (0 : Int32) < p2 then p2 else (0 : Int32))), .val (.int (0 : Int32)), .val (.int (0 : Int32)), .unset, .unset] [])) _
        refine XS.iload X84.here hx rfl (hb hby at_209) rfl ?_
        show Steps p.tables e below (T84.setTop (mkF m 211 #[.val (.int p0), .val (.int p1), .val (.int p2), .val (.int p3), .val (.int ee), .val (.int wg), .val (.int md), .val (.int ss), .val (.int (1 : Int32)), .val (.ref b71), .val (.int (if (0 : Int32) < p2 then p2 else (0 : Int32))), .val (.int (0 : Int32)), .val (.int (0 : Int32)), .unset, .unset] [(.int ss)])) _
        refine X84.ldcInt hx hown (mvT hZ (hw _ (List.mem_of_getElem? (i := 40) rfl))) (g := (mkF m 211 #[.val (.int p0), .val (.int p1), .val (.int p2), .val (.int p3), .val (.int ee), .val (.int wg), .val (.int md), .val (.int ss), .val (.int (1 : Int32)), .val (.ref b71), .val (.int (if (0 : Int32) < p2 then p2 else (0 : Int32))), .val (.int (0 : Int32)), .val (.int (0 : Int32)), .unset, .unset] [(.int ss)])) rfl (hb hby at_211) _ ?_
        exact k
      by_cases hc213_89 : ss = (2147483647 : Int32)
      · have pre90 : ∀ t, Steps p.tables e below (T84.setTop (mkF m 217 #[.val (.int p0), .val (.int p1), .val (.int p2), .val (.int p3), .val (.int ee), .val (.int wg), .val (.int md), .val (.int ss), .val (.int (1 : Int32)), .val (.ref b71), .val (.int (if (0 : Int32) < p2 then p2 else (0 : Int32))), .val (.int (0 : Int32)), .val (.int (0 : Int32)), .unset, .unset] [(.int (1 : Int32))])) t → Steps p.tables e below (s₁.setTop (entryFrame m #[(.int p0), (.int p1), (.int p2), (.int p3)] maxLocals)) t := fun t k => by
          refine pre88 t ?_
          show Steps p.tables e below (T84.setTop (mkF m 213 #[.val (.int p0), .val (.int p1), .val (.int p2), .val (.int p3), .val (.int ee), .val (.int wg), .val (.int md), .val (.int ss), .val (.int (1 : Int32)), .val (.ref b71), .val (.int (if (0 : Int32) < p2 then p2 else (0 : Int32))), .val (.int (0 : Int32)), .val (.int (0 : Int32)), .unset, .unset] [(.int (2147483647 : Int32)), (.int ss)])) _
          refine XS.icmpNo X84.here hx rfl (hb hby at_213) rfl (teq hc213_89).2 ?_
          show Steps p.tables e below (T84.setTop (mkF m 216 #[.val (.int p0), .val (.int p1), .val (.int p2), .val (.int p3), .val (.int ee), .val (.int wg), .val (.int md), .val (.int ss), .val (.int (1 : Int32)), .val (.ref b71), .val (.int (if (0 : Int32) < p2 then p2 else (0 : Int32))), .val (.int (0 : Int32)), .val (.int (0 : Int32)), .unset, .unset] [])) _
          refine XS.iconst X84.here hx rfl (hb hby at_216) ?_
          exact k
        obtain ⟨fs, hrq, hrun, hended, hW, hsame⟩ := X84.leave (v := some (.int (1 : Int32))) (fun h => by rw [Bd.returns] at h; cases h)
        refine ⟨_, _, pre90 _ ?_, hrun, hended, _, _, rfl, ?_, ⟨_, rfl⟩, hW, hsame.mono (by decide) (by decide)⟩
        · show Steps p.tables e below (T84.setTop (mkF m 217 #[.val (.int p0), .val (.int p1), .val (.int p2), .val (.int p3), .val (.int ee), .val (.int wg), .val (.int md), .val (.int ss), .val (.int (1 : Int32)), .val (.ref b71), .val (.int (if (0 : Int32) < p2 then p2 else (0 : Int32))), .val (.int (0 : Int32)), .val (.int (0 : Int32)), .unset, .unset] [(.int (1 : Int32))])) _
          exact retN X84 hx (t := .boolean) Bd.returns (by simp) (hb hby at_217) hrq
        · show Q0 Z p0 p1 p2 p3 ug ua h0 n0 _ T84.heap _
          rw [e84]
          exact ⟨rfl, N84⟩
      · have c91 : Sta Z T82.heap "com/example/depthwire/depthwire/InboundSeqNums$Verdict" "GAP" "Lcom/example/depthwire/depthwire/InboundSeqNums$Verdict;" (.ref ug) := (own_sta_keep c79 Kq82 (allS (own_plain_exa Eq77) all0))
        have c92 : Sta Z T82.heap "com/example/depthwire/depthwire/InboundSeqNums$Verdict" "GAP_ASKED" "Lcom/example/depthwire/depthwire/InboundSeqNums$Verdict;" (.ref ua) := (own_sta_keep (own_sta_keep c76 Kq77 (allS (own_plain_exa Eq73) all0)) Kq82 (allS (own_plain_exa Eq77) all0))
        obtain ⟨cq93, kq93, q93a, q93b, q93c⟩ := isOf hZ e84 Eq82
        obtain ⟨_, _, ⟨T93, L93, k93, n93⟩, -, X93, ⟨Lc93, hQ93, l93, y93, z93⟩, st93⟩ := X84.virtualBack hx (y := (⟨"com/example/depthwire/depthwire/InboundSeqNums", "receive", "(IZ)Lcom/example/depthwire/depthwire/InboundSeqNums$Verdict;"⟩ : MethodName)) (z := (⟨"com/example/depthwire/depthwire/InboundSeqNums", "receive", "(IZ)Lcom/example/depthwire/depthwire/InboundSeqNums$Verdict;"⟩ : MethodName)) hown (mvT hZ (hw _ (List.mem_of_getElem? (i := 18) rfl))) (mvT hZ (hw _ (List.mem_of_getElem? (i := 19) rfl))) (notFace_of_selects (args := #[]) (mvT hZ (hw _ (List.mem_of_getElem? (i := 21) rfl)))) (mvT hZ (hw _ (List.mem_of_getElem? (i := 21) rfl))) (mvT hZ (hw _ (List.mem_of_getElem? (i := 20) rfl))) (by decide) (backOf (W := 0) (rm5 l Z a0 hw [] b71 (ss + (1 : Int32)) (0 : Int32) ss (0 : Int32) ug ua ug T82.heap n0 Z83 Eq82 Fe82 Fx87 g_b71 c91 c92 (own_succ hc213_89) (if_neg (by decide))) hZ (hw _ (List.mem_of_getElem? (i := 22) rfl)) (hw _ (List.mem_of_getElem? (i := 9) rfl)) (by decide) (by decide)) q93a q93c (g := (mkF m 225 #[.val (.int p0), .val (.int p1), .val (.int p2), .val (.int p3), .val (.int ee), .val (.int wg), .val (.int md), .val (.int ss), .val (.int (1 : Int32)), .val (.ref b71), .val (.int (if (0 : Int32) < p2 then p2 else (0 : Int32))), .val (.int (0 : Int32)), .val (.int (0 : Int32)), .unset, .unset] [(.int (0 : Int32)), (.int (ss + (1 : Int32))), (.ref b71)])) rfl (by rw [hml]; rfl) (Steps.refl _) (argsL := [(.int (ss + (1 : Int32))), (.int (0 : Int32))]) (rest := []) (lenOf pd_3 rfl) rfl (by show 2 * 0 + _ ≤ _; exact Nat.le_of_eq rfl) (hb hby at_225) (fun _ _ => ⟨rfl, e84, (by decide : 1 + 0 ≤ _), (by decide : 2 + 0 ≤ _)⟩)
        dsimp only [Pt.U, Pt.locs, Pt.cells, Pt.slots] at X93 l93 y93 z93 st93 hQ93
        subst l93 y93 z93
        obtain ⟨rfl, Nq93, Kq93, Eq93, Fe93, Fa93⟩ := hQ93
        have N93 := Fr.app N84 Nq93
        have Z94 : n0 ≤ T93.heap.size := Nat.le_trans Z83 Kq93.1
        have c95 : Sta Z T93.heap "com/example/depthwire/depthwire/InboundSeqNums$Verdict" "GAP" "Lcom/example/depthwire/depthwire/InboundSeqNums$Verdict;" (.ref ug) := (own_sta_keep c91 Kq93 (allS (own_plain_exa Eq82) all0))
        obtain ⟨T96, X96, e96, st96⟩ := getS2 X93 hx hZ hown (host := "") (Or.inl (hw _ (List.mem_of_getElem? (i := 29) rfl))) Via.refl rfl c95 (g := (mkF m 241 #[.val (.int p0), .val (.int p1), .val (.int p2), .val (.int p3), .val (.int ee), .val (.int wg), .val (.int md), .val (.int ss), .val (.int (1 : Int32)), .val (.ref b71), .val (.int (if (0 : Int32) < p2 then p2 else (0 : Int32))), .val (.int (0 : Int32)), .val (.int (0 : Int32)), .val (.ref ug), .unset] [])) rfl (hb hby at_241)
        have pre97 : ∀ t, Steps p.tables e below (T96.setTop (mkF m 258 #[.val (.int p0), .val (.int p1), .val (.int p2), .val (.int p3), .val (.int ee), .val (.int wg), .val (.int md), .val (.int ss), .val (.int (1 : Int32)), .val (.ref b71), .val (.int (if (0 : Int32) < p2 then p2 else (0 : Int32))), .val (.int (0 : Int32)), .val (.int (0 : Int32)), .val (.ref ug), .val (.ref ug)] [(.int (1 : Int32))])) t → Steps p.tables e below (s₁.setTop (entryFrame m #[(.int p0), (.int p1), (.int p2), (.int p3)] maxLocals)) t := fun t k => by
          refine pre88 t ?_
          show Steps p.tables e below (T84.setTop (mkF m 213 #[.val (.int p0), .val (.int p1), .val (.int p2), .val (.int p3), .val (.int ee), .val (.int wg), .val (.int md), .val (.int ss), .val (.int (1 : Int32)), .val (.ref b71), .val (.int (if (0 : Int32) < p2 then p2 else (0 : Int32))), .val (.int (0 : Int32)), .val (.int (0 : Int32)), .unset, .unset] [(.int (2147483647 : Int32)), (.int ss)])) _
          refine XS.icmpYes X84.here hx rfl (pc0 := 213) (pc' := 218) rfl (hb hby at_213) rfl (feq hc213_89).2 (by decide) (by decide) ?_
          show Steps p.tables e below (T84.setTop (mkF m 218 #[.val (.int p0), .val (.int p1), .val (.int p2), .val (.int p3), .val (.int ee), .val (.int wg), .val (.int md), .val (.int ss), .val (.int (1 : Int32)), .val (.ref b71), .val (.int (if (0 : Int32) < p2 then p2 else (0 : Int32))), .val (.int (0 : Int32)), .val (.int (0 : Int32)), .unset, .unset] [])) _
          refine XS.aload X84.here hx rfl (hb hby at_218) rfl rfl ?_
          show Steps p.tables e below (T84.setTop (mkF m 220 #[.val (.int p0), .val (.int p1), .val (.int p2), .val (.int p3), .val (.int ee), .val (.int wg), .val (.int md), .val (.int ss), .val (.int (1 : Int32)), .val (.ref b71), .val (.int (if (0 : Int32) < p2 then p2 else (0 : Int32))), .val (.int (0 : Int32)), .val (.int (0 : Int32)), .unset, .unset] [(.ref b71)])) _
          refine XS.iload X84.here hx rfl (hb hby at_220) rfl ?_
          show Steps p.tables e below (T84.setTop (mkF m 222 #[.val (.int p0), .val (.int p1), .val (.int p2), .val (.int p3), .val (.int ee), .val (.int wg), .val (.int md), .val (.int ss), .val (.int (1 : Int32)), .val (.ref b71), .val (.int (if (0 : Int32) < p2 then p2 else (0 : Int32))), .val (.int (0 : Int32)), .val (.int (0 : Int32)), .unset, .unset] [(.int ss), (.ref b71)])) _
          refine XS.iconst X84.here hx rfl (hb hby at_222) ?_
          show Steps p.tables e below (T84.setTop (mkF m 223 #[.val (.int p0), .val (.int p1), .val (.int p2), .val (.int p3), .val (.int ee), .val (.int wg), .val (.int md), .val (.int ss), .val (.int (1 : Int32)), .val (.ref b71), .val (.int (if (0 : Int32) < p2 then p2 else (0 : Int32))), .val (.int (0 : Int32)), .val (.int (0 : Int32)), .unset, .unset] [(.int (1 : Int32)), (.int ss), (.ref b71)])) _
          refine XS.iadd X84.here hx rfl (hb hby at_223) rfl ?_
          show Steps p.tables e below (T84.setTop (mkF m 224 #[.val (.int p0), .val (.int p1), .val (.int p2), .val (.int p3), .val (.int ee), .val (.int wg), .val (.int md), .val (.int ss), .val (.int (1 : Int32)), .val (.ref b71), .val (.int (if (0 : Int32) < p2 then p2 else (0 : Int32))), .val (.int (0 : Int32)), .val (.int (0 : Int32)), .unset, .unset] [(.int (ss + (1 : Int32))), (.ref b71)])) _
          refine XS.iconst X84.here hx rfl (hb hby at_224) ?_
          show Steps p.tables e below (T84.setTop (mkF m 225 #[.val (.int p0), .val (.int p1), .val (.int p2), .val (.int p3), .val (.int ee), .val (.int wg), .val (.int md), .val (.int ss), .val (.int (1 : Int32)), .val (.ref b71), .val (.int (if (0 : Int32) < p2 then p2 else (0 : Int32))), .val (.int (0 : Int32)), .val (.int (0 : Int32)), .unset, .unset] [(.int (0 : Int32)), (.int (ss + (1 : Int32))), (.ref b71)])) _
          refine st93.trans ?_
          show Steps p.tables e below (T93.setTop (mkF m 228 #[.val (.int p0), .val (.int p1), .val (.int p2), .val (.int p3), .val (.int ee), .val (.int wg), .val (.int md), .val (.int ss), .val (.int (1 : Int32)), .val (.ref b71), .val (.int (if (0 : Int32) < p2 then p2 else (0 : Int32))), .val (.int (0 : Int32)), .val (.int (0 : Int32)), .unset, .unset] [(.ref ug)])) _
          refine XS.astore X93.here hx rfl (hb hby at_228) rfl rfl (l' := #[.val (.int p0), .val (.int p1), .val (.int p2), .val (.int p3), .val (.int ee), .val (.int wg), .val (.int md), .val (.int ss), .val (.int (1 : Int32)), .val (.ref b71), .val (.int (if (0 : Int32) < p2 then p2 else (0 : Int32))), .val (.int (0 : Int32)), .val (.int (0 : Int32)), .val (.ref ug), .unset]) rfl ?_
          show Steps p.tables e below (T93.setTop (mkF m 230 #[.val (.int p0), .val (.int p1), .val (.int p2), .val (.int p3), .val (.int ee), .val (.int wg), .val (.int md), .val (.int ss), .val (.int (1 : Int32)), .val (.ref b71), .val (.int (if (0 : Int32) < p2 then p2 else (0 : Int32))), .val (.int (0 : Int32)), .val (.int (0 : Int32)), .val (.ref ug), .unset] [])) _
          refine XS.iload X93.here hx rfl (hb hby at_230) rfl ?_
          show Steps p.tables e below (T93.setTop (mkF m 232 #[.val (.int p0), .val (.int p1), .val (.int p2), .val (.int p3), .val (.int ee), .val (.int wg), .val (.int md), .val (.int ss), .val (.int (1 : Int32)), .val (.ref b71), .val (.int (if (0 : Int32) < p2 then p2 else (0 : Int32))), .val (.int (0 : Int32)), .val (.int (0 : Int32)), .val (.ref ug), .unset] [(.int (0 : Int32))])) _
          refine XS.ifYes X93.here hx rfl (pc0 := 232) (pc' := 241) rfl (hb hby at_232) rfl ((if0 _ _).trans (teq (by decide : (0 : Int32) = (0 : Int32))).1) (by decide) (by decide) ?_
          show Steps p.tables e below (T93.setTop (mkF m 241 #[.val (.int p0), .val (.int p1), .val (.int p2), .val (.int p3), .val (.int ee), .val (.int wg), .val (.int md), .val (.int ss), .val (.int (1 : Int32)), .val (.ref b71), .val (.int (if (0 : Int32) < p2 then p2 else (0 : Int32))), .val (.int (0 : Int32)), .val (.int (0 : Int32)), .val (.ref ug), .unset] [])) _
          refine st96 _ ?_
          show Steps p.tables e below (T96.setTop (mkF m 244 #[.val (.int p0), .val (.int p1), .val (.int p2), .val (.int p3), .val (.int ee), .val (.int wg), .val (.int md), .val (.int ss), .val (.int (1 : Int32)), .val (.ref b71), .val (.int (if (0 : Int32) < p2 then p2 else (0 : Int32))), .val (.int (0 : Int32)), .val (.int (0 : Int32)), .val (.ref ug), .unset] [(.ref ug)])) _
          refine XS.astore X96.here hx rfl (hb hby at_244) rfl rfl (l' := #[.val (.int p0), .val (.int p1), .val (.int p2), .val (.int p3), .val (.int ee), .val (.int wg), .val (.int md), .val (.int ss), .val (.int (1 : Int32)), .val (.ref b71), .val (.int (if (0 : Int32) < p2 then p2 else (0 : Int32))), .val (.int (0 : Int32)), .val (.int (0 : Int32)), .val (.ref ug), .val (.ref ug)]) rfl ?_
          show Steps p.tables e below (T96.setTop (mkF m 246 #[.val (.int p0), .val (.int p1), .val (.int p2), .val (.int p3), .val (.int ee), .val (.int wg), .val (.int md), .val (.int ss), .val (.int (1 : Int32)), .val (.ref b71), .val (.int (if (0 : Int32) < p2 then p2 else (0 : Int32))), .val (.int (0 : Int32)), .val (.int (0 : Int32)), .val (.ref ug), .val (.ref ug)] [])) _
          refine XS.aload X96.here hx rfl (hb hby at_246) rfl rfl ?_
          show Steps p.tables e below (T96.setTop (mkF m 248 #[.val (.int p0), .val (.int p1), .val (.int p2), .val (.int p3), .val (.int ee), .val (.int wg), .val (.int md), .val (.int ss), .val (.int (1 : Int32)), .val (.ref b71), .val (.int (if (0 : Int32) < p2 then p2 else (0 : Int32))), .val (.int (0 : Int32)), .val (.int (0 : Int32)), .val (.ref ug), .val (.ref ug)] [(.ref ug)])) _
          refine XS.aload X96.here hx rfl (hb hby at_248) rfl rfl ?_
          show Steps p.tables e below (T96.setTop (mkF m 250 #[.val (.int p0), .val (.int p1), .val (.int p2), .val (.int p3), .val (.int ee), .val (.int wg), .val (.int md), .val (.int ss), .val (.int (1 : Int32)), .val (.ref b71), .val (.int (if (0 : Int32) < p2 then p2 else (0 : Int32))), .val (.int (0 : Int32)), .val (.int (0 : Int32)), .val (.ref ug), .val (.ref ug)] [(.ref ug), (.ref ug)])) _
          refine Jvm.RoadKit.acmp (g := (mkF m 250 #[.val (.int p0), .val (.int p1), .val (.int p2), .val (.int p3), .val (.int ee), .val (.int wg), .val (.int md), .val (.int ss), .val (.int (1 : Int32)), .val (.ref b71), .val (.int (if (0 : Int32) < p2 then p2 else (0 : Int32))), .val (.int (0 : Int32)), .val (.int (0 : Int32)), .val (.ref ug), .val (.ref ug)] [(.ref ug), (.ref ug)])) X96 hx rfl rfl rfl (pc0 := 250) (pc' := 253) (same := true) rfl (hb hby at_250) rfl (decide_eq_true rfl) (by decide) (by decide) ?_
          show Steps p.tables e below (T96.setTop (mkF m 253 #[.val (.int p0), .val (.int p1), .val (.int p2), .val (.int p3), .val (.int ee), .val (.int wg), .val (.int md), .val (.int ss), .val (.int (1 : Int32)), .val (.ref b71), .val (.int (if (0 : Int32) < p2 then p2 else (0 : Int32))), .val (.int (0 : Int32)), .val (.int (0 : Int32)), .val (.ref ug), .val (.ref ug)] [])) _
          refine XS.iconst X96.here hx rfl (hb hby at_253) ?_
          show Steps p.tables e below (T96.setTop (mkF m 254 #[.val (.int p0), .val (.int p1), .val (.int p2), .val (.int p3), .val (.int ee), .val (.int wg), .val (.int md), .val (.int ss), .val (.int (1 : Int32)), .val (.ref b71), .val (.int (if (0 : Int32) < p2 then p2 else (0 : Int32))), .val (.int (0 : Int32)), .val (.int (0 : Int32)), .val (.ref ug), .val (.ref ug)] [(.int (1 : Int32))])) _
          refine XS.goto X96.here hx rfl (pc0 := 254) (pc' := 258) rfl (hb hby at_254) (by decide) (by decide) ?_
          exact k
        obtain ⟨fs, hrq, hrun, hended, hW, hsame⟩ := X96.leave (v := some (.int (1 : Int32))) (fun h => by rw [Bd.returns] at h; cases h)
        refine ⟨_, _, pre97 _ ?_, hrun, hended, _, _, rfl, ?_, ⟨_, rfl⟩, hW, hsame.mono (by decide) (by decide)⟩
        · show Steps p.tables e below (T96.setTop (mkF m 258 #[.val (.int p0), .val (.int p1), .val (.int p2), .val (.int p3), .val (.int ee), .val (.int wg), .val (.int md), .val (.int ss), .val (.int (1 : Int32)), .val (.ref b71), .val (.int (if (0 : Int32) < p2 then p2 else (0 : Int32))), .val (.int (0 : Int32)), .val (.int (0 : Int32)), .val (.ref ug), .val (.ref ug)] [(.int (1 : Int32))])) _
          exact retN X96 hx (t := .boolean) Bd.returns (by simp) (hb hby at_258) hrq
        · show Q0 Z p0 p1 p2 p3 ug ua h0 n0 _ T96.heap _
          rw [e96]
          exact ⟨rfl, N93⟩
    · have Fx98 : Fld Z T82.heap b71 "com/example/depthwire/depthwire/InboundSeqNums" "askedUpTo" "I" (.int (if (0 : Int32) < p2 then p2 else (0 : Int32))) := by rw [if_neg hc186_86] at Fa82; exact Fa82
      have pre99 : ∀ t, Steps p.tables e below (T84.setTop (mkF m 199 #[.val (.int p0), .val (.int p1), .val (.int p2), .val (.int p3), .val (.int ee), .val (.int wg), .val (.int md), .val (.int ss), .val (.int (1 : Int32)), .val (.ref b71), .val (.int (if (0 : Int32) < p2 then p2 else (0 : Int32))), .val (.int (if (0 : Int32) < p2 then p2 else (0 : Int32))), .unset, .unset, .unset] [(.int (if (0 : Int32) < p2 then p2 else (0 : Int32)))])) t → Steps p.tables e below (s₁.setTop (entryFrame m #[(.int p0), (.int p1), (.int p2), (.int p3)] maxLocals)) t := fun t k => by
        refine pre85 t ?_
        show Steps p.tables e below (T84.setTop (mkF m 186 #[.val (.int p0), .val (.int p1), .val (.int p2), .val (.int p3), .val (.int ee), .val (.int wg), .val (.int md), .val (.int ss), .val (.int (1 : Int32)), .val (.ref b71), .val (.int (if (0 : Int32) < p2 then p2 else (0 : Int32))), .val (.ref ug), .unset, .unset, .unset] [(.int (if (0 : Int32) < p2 then p2 else (0 : Int32))), (.int ss)])) _
        refine XS.icmpYes X84.here hx rfl (pc0 := 186) (pc' := 193) rfl (hb hby at_186) rfl (flt hc186_86).2.2.2 (by decide) (by decide) ?_
        show Steps p.tables e below (T84.setTop (mkF m 193 #[.val (.int p0), .val (.int p1), .val (.int p2), .val (.int p3), .val (.int ee), .val (.int wg), .val (.int md), .val (.int ss), .val (.int (1 : Int32)), .val (.ref b71), .val (.int (if (0 : Int32) < p2 then p2 else (0 : Int32))), .val (.ref ug), .unset, .unset, .unset] [])) _
        refine XS.iload X84.here hx rfl (hb hby at_193) rfl ?_
        show Steps p.tables e below (T84.setTop (mkF m 195 #[.val (.int p0), .val (.int p1), .val (.int p2), .val (.int p3), .val (.int ee), .val (.int wg), .val (.int md), .val (.int ss), .val (.int (1 : Int32)), .val (.ref b71), .val (.int (if (0 : Int32) < p2 then p2 else (0 : Int32))), .val (.ref ug), .unset, .unset, .unset] [(.int (if (0 : Int32) < p2 then p2 else (0 : Int32)))])) _
        refine XS.istore X84.here hx rfl (hb hby at_195) rfl (l' := #[.val (.int p0), .val (.int p1), .val (.int p2), .val (.int p3), .val (.int ee), .val (.int wg), .val (.int md), .val (.int ss), .val (.int (1 : Int32)), .val (.ref b71), .val (.int (if (0 : Int32) < p2 then p2 else (0 : Int32))), .val (.int (if (0 : Int32) < p2 then p2 else (0 : Int32))), .unset, .unset, .unset]) rfl ?_
        show Steps p.tables e below (T84.setTop (mkF m 197 #[.val (.int p0), .val (.int p1), .val (.int p2), .val (.int p3), .val (.int ee), .val (.int wg), .val (.int md), .val (.int ss), .val (.int (1 : Int32)), .val (.ref b71), .val (.int (if (0 : Int32) < p2 then p2 else (0 : Int32))), .val (.int (if (0 : Int32) < p2 then p2 else (0 : Int32))), .unset, .unset, .unset] [])) _
        refine XS.iload X84.here hx rfl (hb hby at_197) rfl ?_
        exact k
      by_cases hc199_100 : (0 : Int32) < (if (0 : Int32) < p2 then p2 else (0 : Int32))
      · have pre101 : ∀ t, Steps p.tables e below (T84.setTop (mkF m 213 #[.val (.int p0), .val (.int p1), .val (.int p2), .val (.int p3), .val (.int ee), .val (.int wg), .val (.int md), .val (.int ss), .val (.int (1 : Int32)), .val (.ref b71), .val (.int (if (0 : Int32) < p2 then p2 else (0 : Int32))), .val (.int (if (0 : Int32) < p2 then p2 else (0 : Int32))), .val (.int (1 : Int32)), .unset, .unset] [(.int (2147483647 : Int32)), (.int ss)])) t → Steps p.tables e below (s₁.setTop (entryFrame m #[(.int p0), (.int p1), (.int p2), (.int p3)] maxLocals)) t := fun t k => by
          refine pre99 t ?_
          show Steps p.tables e below (T84.setTop (mkF m 199 #[.val (.int p0), .val (.int p1), .val (.int p2), .val (.int p3), .val (.int ee), .val (.int wg), .val (.int md), .val (.int ss), .val (.int (1 : Int32)), .val (.ref b71), .val (.int (if (0 : Int32) < p2 then p2 else (0 : Int32))), .val (.int (if (0 : Int32) < p2 then p2 else (0 : Int32))), .unset, .unset, .unset] [(.int (if (0 : Int32) < p2 then p2 else (0 : Int32)))])) _
          refine XS.ifNo X84.here hx rfl (hb hby at_199) rfl ((if0 _ _).trans (tlt hc199_100).2.2.2) ?_
          show Steps p.tables e below (T84.setTop (mkF m 202 #[.val (.int p0), .val (.int p1), .val (.int p2), .val (.int p3), .val (.int ee), .val (.int wg), .val (.int md), .val (.int ss), .val (.int (1 : Int32)), .val (.ref b71), .val (.int (if (0 : Int32) < p2 then p2 else (0 : Int32))), .val (.int (if (0 : Int32) < p2 then p2 else (0 : Int32))), .unset, .unset, .unset] [])) _
          refine XS.iconst X84.here hx rfl (hb hby at_202) ?_
          show Steps p.tables e below (T84.setTop (mkF m 203 #[.val (.int p0), .val (.int p1), .val (.int p2), .val (.int p3), .val (.int ee), .val (.int wg), .val (.int md), .val (.int ss), .val (.int (1 : Int32)), .val (.ref b71), .val (.int (if (0 : Int32) < p2 then p2 else (0 : Int32))), .val (.int (if (0 : Int32) < p2 then p2 else (0 : Int32))), .unset, .unset, .unset] [(.int (1 : Int32))])) _
          refine XS.goto X84.here hx rfl (pc0 := 203) (pc' := 207) rfl (hb hby at_203) (by decide) (by decide) ?_
          show Steps p.tables e below (T84.setTop (mkF m 207 #[.val (.int p0), .val (.int p1), .val (.int p2), .val (.int p3), .val (.int ee), .val (.int wg), .val (.int md), .val (.int ss), .val (.int (1 : Int32)), .val (.ref b71), .val (.int (if (0 : Int32) < p2 then p2 else (0 : Int32))), .val (.int (if (0 : Int32) < p2 then p2 else (0 : Int32))), .unset, .unset, .unset] [(.int (1 : Int32))])) _
          refine XS.istore X84.here hx rfl (hb hby at_207) rfl (l' := #[.val (.int p0), .val (.int p1), .val (.int p2), .val (.int p3), .val (.int ee), .val (.int wg), .val (.int md), .val (.int ss), .val (.int (1 : Int32)), .val (.ref b71), .val (.int (if (0 : Int32) < p2 then p2 else (0 : Int32))), .val (.int (if (0 : Int32) < p2 then p2 else (0 : Int32))), .val (.int (1 : Int32)), .unset, .unset]) rfl ?_
          show Steps p.tables e below (T84.setTop (mkF m 209 #[.val (.int p0), .val (.int p1), .val (.int p2), .val (.int p3), .val (.int ee), .val (.int wg), .val (.int md), .val (.int ss), .val (.int (1 : Int32)), .val (.ref b71), .val (.int (if (0 : Int32) < p2 then p2 else (0 : Int32))), .val (.int (if (0 : Int32) < p2 then p2 else (0 : Int32))), .val (.int (1 : Int32)), .unset, .unset] [])) _
          refine XS.iload X84.here hx rfl (hb hby at_209) rfl ?_
          show Steps p.tables e below (T84.setTop (mkF m 211 #[.val (.int p0), .val (.int p1), .val (.int p2), .val (.int p3), .val (.int ee), .val (.int wg), .val (.int md), .val (.int ss), .val (.int (1 : Int32)), .val (.ref b71), .val (.int (if (0 : Int32) < p2 then p2 else (0 : Int32))), .val (.int (if (0 : Int32) < p2 then p2 else (0 : Int32))), .val (.int (1 : Int32)), .unset, .unset] [(.int ss)])) _
          refine X84.ldcInt hx hown (mvT hZ (hw _ (List.mem_of_getElem? (i := 40) rfl))) (g := (mkF m 211 #[.val (.int p0), .val (.int p1), .val (.int p2), .val (.int p3), .val (.int ee), .val (.int wg), .val (.int md), .val (.int ss), .val (.int (1 : Int32)), .val (.ref b71), .val (.int (if (0 : Int32) < p2 then p2 else (0 : Int32))), .val (.int (if (0 : Int32) < p2 then p2 else (0 : Int32))), .val (.int (1 : Int32)), .unset, .unset] [(.int ss)])) rfl (hb hby at_211) _ ?_
          exact k
        by_cases hc213_102 : ss = (2147483647 : Int32)
        · have pre103 : ∀ t, Steps p.tables e below (T84.setTop (mkF m 217 #[.val (.int p0), .val (.int p1), .val (.int p2), .val (.int p3), .val (.int ee), .val (.int wg), .val (.int md), .val (.int ss), .val (.int (1 : Int32)), .val (.ref b71), .val (.int (if (0 : Int32) < p2 then p2 else (0 : Int32))), .val (.int (if (0 : Int32) < p2 then p2 else (0 : Int32))), .val (.int (1 : Int32)), .unset, .unset] [(.int (1 : Int32))])) t → Steps p.tables e below (s₁.setTop (entryFrame m #[(.int p0), (.int p1), (.int p2), (.int p3)] maxLocals)) t := fun t k => by
            refine pre101 t ?_
            show Steps p.tables e below (T84.setTop (mkF m 213 #[.val (.int p0), .val (.int p1), .val (.int p2), .val (.int p3), .val (.int ee), .val (.int wg), .val (.int md), .val (.int ss), .val (.int (1 : Int32)), .val (.ref b71), .val (.int (if (0 : Int32) < p2 then p2 else (0 : Int32))), .val (.int (if (0 : Int32) < p2 then p2 else (0 : Int32))), .val (.int (1 : Int32)), .unset, .unset] [(.int (2147483647 : Int32)), (.int ss)])) _
            refine XS.icmpNo X84.here hx rfl (hb hby at_213) rfl (teq hc213_102).2 ?_
            show Steps p.tables e below (T84.setTop (mkF m 216 #[.val (.int p0), .val (.int p1), .val (.int p2), .val (.int p3), .val (.int ee), .val (.int wg), .val (.int md), .val (.int ss), .val (.int (1 : Int32)), .val (.ref b71), .val (.int (if (0 : Int32) < p2 then p2 else (0 : Int32))), .val (.int (if (0 : Int32) < p2 then p2 else (0 : Int32))), .val (.int (1 : Int32)), .unset, .unset] [])) _
            refine XS.iconst X84.here hx rfl (hb hby at_216) ?_
            exact k
          obtain ⟨fs, hrq, hrun, hended, hW, hsame⟩ := X84.leave (v := some (.int (1 : Int32))) (fun h => by rw [Bd.returns] at h; cases h)
          refine ⟨_, _, pre103 _ ?_, hrun, hended, _, _, rfl, ?_, ⟨_, rfl⟩, hW, hsame.mono (by decide) (by decide)⟩
          · show Steps p.tables e below (T84.setTop (mkF m 217 #[.val (.int p0), .val (.int p1), .val (.int p2), .val (.int p3), .val (.int ee), .val (.int wg), .val (.int md), .val (.int ss), .val (.int (1 : Int32)), .val (.ref b71), .val (.int (if (0 : Int32) < p2 then p2 else (0 : Int32))), .val (.int (if (0 : Int32) < p2 then p2 else (0 : Int32))), .val (.int (1 : Int32)), .unset, .unset] [(.int (1 : Int32))])) _
            exact retN X84 hx (t := .boolean) Bd.returns (by simp) (hb hby at_217) hrq
          · show Q0 Z p0 p1 p2 p3 ug ua h0 n0 _ T84.heap _
            rw [e84]
            exact ⟨rfl, N84⟩
        · have c104 : Sta Z T82.heap "com/example/depthwire/depthwire/InboundSeqNums$Verdict" "GAP" "Lcom/example/depthwire/depthwire/InboundSeqNums$Verdict;" (.ref ug) := (own_sta_keep c79 Kq82 (allS (own_plain_exa Eq77) all0))
          have c105 : Sta Z T82.heap "com/example/depthwire/depthwire/InboundSeqNums$Verdict" "GAP_ASKED" "Lcom/example/depthwire/depthwire/InboundSeqNums$Verdict;" (.ref ua) := (own_sta_keep (own_sta_keep c76 Kq77 (allS (own_plain_exa Eq73) all0)) Kq82 (allS (own_plain_exa Eq77) all0))
          obtain ⟨cq106, kq106, q106a, q106b, q106c⟩ := isOf hZ e84 Eq82
          obtain ⟨_, _, ⟨T106, L106, k106, n106⟩, -, X106, ⟨Lc106, hQ106, l106, y106, z106⟩, st106⟩ := X84.virtualBack hx (y := (⟨"com/example/depthwire/depthwire/InboundSeqNums", "receive", "(IZ)Lcom/example/depthwire/depthwire/InboundSeqNums$Verdict;"⟩ : MethodName)) (z := (⟨"com/example/depthwire/depthwire/InboundSeqNums", "receive", "(IZ)Lcom/example/depthwire/depthwire/InboundSeqNums$Verdict;"⟩ : MethodName)) hown (mvT hZ (hw _ (List.mem_of_getElem? (i := 18) rfl))) (mvT hZ (hw _ (List.mem_of_getElem? (i := 19) rfl))) (notFace_of_selects (args := #[]) (mvT hZ (hw _ (List.mem_of_getElem? (i := 21) rfl)))) (mvT hZ (hw _ (List.mem_of_getElem? (i := 21) rfl))) (mvT hZ (hw _ (List.mem_of_getElem? (i := 20) rfl))) (by decide) (backOf (W := 0) (rm5 l Z a0 hw [] b71 (ss + (1 : Int32)) (0 : Int32) ss (if (0 : Int32) < p2 then p2 else (0 : Int32)) ug ua ua T82.heap n0 Z83 Eq82 Fe82 Fx98 g_b71 c104 c105 (own_succ hc213_102) (if_pos hc199_100)) hZ (hw _ (List.mem_of_getElem? (i := 22) rfl)) (hw _ (List.mem_of_getElem? (i := 9) rfl)) (by decide) (by decide)) q106a q106c (g := (mkF m 225 #[.val (.int p0), .val (.int p1), .val (.int p2), .val (.int p3), .val (.int ee), .val (.int wg), .val (.int md), .val (.int ss), .val (.int (1 : Int32)), .val (.ref b71), .val (.int (if (0 : Int32) < p2 then p2 else (0 : Int32))), .val (.int (if (0 : Int32) < p2 then p2 else (0 : Int32))), .val (.int (1 : Int32)), .unset, .unset] [(.int (0 : Int32)), (.int (ss + (1 : Int32))), (.ref b71)])) rfl (by rw [hml]; rfl) (Steps.refl _) (argsL := [(.int (ss + (1 : Int32))), (.int (0 : Int32))]) (rest := []) (lenOf pd_3 rfl) rfl (by show 2 * 0 + _ ≤ _; exact Nat.le_of_eq rfl) (hb hby at_225) (fun _ _ => ⟨rfl, e84, (by decide : 1 + 0 ≤ _), (by decide : 2 + 0 ≤ _)⟩)
          dsimp only [Pt.U, Pt.locs, Pt.cells, Pt.slots] at X106 l106 y106 z106 st106 hQ106
          subst l106 y106 z106
          obtain ⟨rfl, Nq106, Kq106, Eq106, Fe106, Fa106⟩ := hQ106
          have N106 := Fr.app N84 Nq106
          have Z107 : n0 ≤ T106.heap.size := Nat.le_trans Z83 Kq106.1
          have c108 : Sta Z T106.heap "com/example/depthwire/depthwire/InboundSeqNums$Verdict" "GAP_ASKED" "Lcom/example/depthwire/depthwire/InboundSeqNums$Verdict;" (.ref ua) := (own_sta_keep c105 Kq106 (allS (own_plain_exa Eq82) all0))
          obtain ⟨T109, X109, e109, st109⟩ := getS2 X106 hx hZ hown (host := "") (Or.inl (hw _ (List.mem_of_getElem? (i := 43) rfl))) Via.refl rfl c108 (g := (mkF m 235 #[.val (.int p0), .val (.int p1), .val (.int p2), .val (.int p3), .val (.int ee), .val (.int wg), .val (.int md), .val (.int ss), .val (.int (1 : Int32)), .val (.ref b71), .val (.int (if (0 : Int32) < p2 then p2 else (0 : Int32))), .val (.int (if (0 : Int32) < p2 then p2 else (0 : Int32))), .val (.int (1 : Int32)), .val (.ref ua), .unset] [])) rfl (hb hby at_235)
          have pre110 : ∀ t, Steps p.tables e below (T109.setTop (mkF m 258 #[.val (.int p0), .val (.int p1), .val (.int p2), .val (.int p3), .val (.int ee), .val (.int wg), .val (.int md), .val (.int ss), .val (.int (1 : Int32)), .val (.ref b71), .val (.int (if (0 : Int32) < p2 then p2 else (0 : Int32))), .val (.int (if (0 : Int32) < p2 then p2 else (0 : Int32))), .val (.int (1 : Int32)), .val (.ref ua), .val (.ref ua)] [(.int (1 : Int32))])) t → Steps p.tables e below (s₁.setTop (entryFrame m #[(.int p0), (.int p1), (.int p2), (.int p3)] maxLocals)) t := fun t k => by
            refine pre101 t ?_
            show Steps p.tables e below (T84.setTop (mkF m 213 #[.val (.int p0), .val (.int p1), .val (.int p2), .val (.int p3), .val (.int ee), .val (.int wg), .val (.int md), .val (.int ss), .val (.int (1 : Int32)), .val (.ref b71), .val (.int (if (0 : Int32) < p2 then p2 else (0 : Int32))), .val (.int (if (0 : Int32) < p2 then p2 else (0 : Int32))), .val (.int (1 : Int32)), .unset, .unset] [(.int (2147483647 : Int32)), (.int ss)])) _
            refine XS.icmpYes X84.here hx rfl (pc0 := 213) (pc' := 218) rfl (hb hby at_213) rfl (feq hc213_102).2 (by decide) (by decide) ?_
            show Steps p.tables e below (T84.setTop (mkF m 218 #[.val (.int p0), .val (.int p1), .val (.int p2), .val (.int p3), .val (.int ee), .val (.int wg), .val (.int md), .val (.int ss), .val (.int (1 : Int32)), .val (.ref b71), .val (.int (if (0 : Int32) < p2 then p2 else (0 : Int32))), .val (.int (if (0 : Int32) < p2 then p2 else (0 : Int32))), .val (.int (1 : Int32)), .unset, .unset] [])) _
            refine XS.aload X84.here hx rfl (hb hby at_218) rfl rfl ?_
            show Steps p.tables e below (T84.setTop (mkF m 220 #[.val (.int p0), .val (.int p1), .val (.int p2), .val (.int p3), .val (.int ee), .val (.int wg), .val (.int md), .val (.int ss), .val (.int (1 : Int32)), .val (.ref b71), .val (.int (if (0 : Int32) < p2 then p2 else (0 : Int32))), .val (.int (if (0 : Int32) < p2 then p2 else (0 : Int32))), .val (.int (1 : Int32)), .unset, .unset] [(.ref b71)])) _
            refine XS.iload X84.here hx rfl (hb hby at_220) rfl ?_
            show Steps p.tables e below (T84.setTop (mkF m 222 #[.val (.int p0), .val (.int p1), .val (.int p2), .val (.int p3), .val (.int ee), .val (.int wg), .val (.int md), .val (.int ss), .val (.int (1 : Int32)), .val (.ref b71), .val (.int (if (0 : Int32) < p2 then p2 else (0 : Int32))), .val (.int (if (0 : Int32) < p2 then p2 else (0 : Int32))), .val (.int (1 : Int32)), .unset, .unset] [(.int ss), (.ref b71)])) _
            refine XS.iconst X84.here hx rfl (hb hby at_222) ?_
            show Steps p.tables e below (T84.setTop (mkF m 223 #[.val (.int p0), .val (.int p1), .val (.int p2), .val (.int p3), .val (.int ee), .val (.int wg), .val (.int md), .val (.int ss), .val (.int (1 : Int32)), .val (.ref b71), .val (.int (if (0 : Int32) < p2 then p2 else (0 : Int32))), .val (.int (if (0 : Int32) < p2 then p2 else (0 : Int32))), .val (.int (1 : Int32)), .unset, .unset] [(.int (1 : Int32)), (.int ss), (.ref b71)])) _
            refine XS.iadd X84.here hx rfl (hb hby at_223) rfl ?_
            show Steps p.tables e below (T84.setTop (mkF m 224 #[.val (.int p0), .val (.int p1), .val (.int p2), .val (.int p3), .val (.int ee), .val (.int wg), .val (.int md), .val (.int ss), .val (.int (1 : Int32)), .val (.ref b71), .val (.int (if (0 : Int32) < p2 then p2 else (0 : Int32))), .val (.int (if (0 : Int32) < p2 then p2 else (0 : Int32))), .val (.int (1 : Int32)), .unset, .unset] [(.int (ss + (1 : Int32))), (.ref b71)])) _
            refine XS.iconst X84.here hx rfl (hb hby at_224) ?_
            show Steps p.tables e below (T84.setTop (mkF m 225 #[.val (.int p0), .val (.int p1), .val (.int p2), .val (.int p3), .val (.int ee), .val (.int wg), .val (.int md), .val (.int ss), .val (.int (1 : Int32)), .val (.ref b71), .val (.int (if (0 : Int32) < p2 then p2 else (0 : Int32))), .val (.int (if (0 : Int32) < p2 then p2 else (0 : Int32))), .val (.int (1 : Int32)), .unset, .unset] [(.int (0 : Int32)), (.int (ss + (1 : Int32))), (.ref b71)])) _
            refine st106.trans ?_
            show Steps p.tables e below (T106.setTop (mkF m 228 #[.val (.int p0), .val (.int p1), .val (.int p2), .val (.int p3), .val (.int ee), .val (.int wg), .val (.int md), .val (.int ss), .val (.int (1 : Int32)), .val (.ref b71), .val (.int (if (0 : Int32) < p2 then p2 else (0 : Int32))), .val (.int (if (0 : Int32) < p2 then p2 else (0 : Int32))), .val (.int (1 : Int32)), .unset, .unset] [(.ref ua)])) _
            refine XS.astore X106.here hx rfl (hb hby at_228) rfl rfl (l' := #[.val (.int p0), .val (.int p1), .val (.int p2), .val (.int p3), .val (.int ee), .val (.int wg), .val (.int md), .val (.int ss), .val (.int (1 : Int32)), .val (.ref b71), .val (.int (if (0 : Int32) < p2 then p2 else (0 : Int32))), .val (.int (if (0 : Int32) < p2 then p2 else (0 : Int32))), .val (.int (1 : Int32)), .val (.ref ua), .unset]) rfl ?_
            show Steps p.tables e below (T106.setTop (mkF m 230 #[.val (.int p0), .val (.int p1), .val (.int p2), .val (.int p3), .val (.int ee), .val (.int wg), .val (.int md), .val (.int ss), .val (.int (1 : Int32)), .val (.ref b71), .val (.int (if (0 : Int32) < p2 then p2 else (0 : Int32))), .val (.int (if (0 : Int32) < p2 then p2 else (0 : Int32))), .val (.int (1 : Int32)), .val (.ref ua), .unset] [])) _
            refine XS.iload X106.here hx rfl (hb hby at_230) rfl ?_
            show Steps p.tables e below (T106.setTop (mkF m 232 #[.val (.int p0), .val (.int p1), .val (.int p2), .val (.int p3), .val (.int ee), .val (.int wg), .val (.int md), .val (.int ss), .val (.int (1 : Int32)), .val (.ref b71), .val (.int (if (0 : Int32) < p2 then p2 else (0 : Int32))), .val (.int (if (0 : Int32) < p2 then p2 else (0 : Int32))), .val (.int (1 : Int32)), .val (.ref ua), .unset] [(.int (1 : Int32))])) _
            refine XS.ifNo X106.here hx rfl (hb hby at_232) rfl ((if0 _ _).trans (feq (by decide : ¬ ((1 : Int32) = (0 : Int32)))).1) ?_
            show Steps p.tables e below (T106.setTop (mkF m 235 #[.val (.int p0), .val (.int p1), .val (.int p2), .val (.int p3), .val (.int ee), .val (.int wg), .val (.int md), .val (.int ss), .val (.int (1 : Int32)), .val (.ref b71), .val (.int (if (0 : Int32) < p2 then p2 else (0 : Int32))), .val (.int (if (0 : Int32) < p2 then p2 else (0 : Int32))), .val (.int (1 : Int32)), .val (.ref ua), .unset] [])) _
            refine st109 _ ?_
            show Steps p.tables e below (T109.setTop (mkF m 238 #[.val (.int p0), .val (.int p1), .val (.int p2), .val (.int p3), .val (.int ee), .val (.int wg), .val (.int md), .val (.int ss), .val (.int (1 : Int32)), .val (.ref b71), .val (.int (if (0 : Int32) < p2 then p2 else (0 : Int32))), .val (.int (if (0 : Int32) < p2 then p2 else (0 : Int32))), .val (.int (1 : Int32)), .val (.ref ua), .unset] [(.ref ua)])) _
            refine XS.goto X109.here hx rfl (pc0 := 238) (pc' := 244) rfl (hb hby at_238) (by decide) (by decide) ?_
            show Steps p.tables e below (T109.setTop (mkF m 244 #[.val (.int p0), .val (.int p1), .val (.int p2), .val (.int p3), .val (.int ee), .val (.int wg), .val (.int md), .val (.int ss), .val (.int (1 : Int32)), .val (.ref b71), .val (.int (if (0 : Int32) < p2 then p2 else (0 : Int32))), .val (.int (if (0 : Int32) < p2 then p2 else (0 : Int32))), .val (.int (1 : Int32)), .val (.ref ua), .unset] [(.ref ua)])) _
            refine XS.astore X109.here hx rfl (hb hby at_244) rfl rfl (l' := #[.val (.int p0), .val (.int p1), .val (.int p2), .val (.int p3), .val (.int ee), .val (.int wg), .val (.int md), .val (.int ss), .val (.int (1 : Int32)), .val (.ref b71), .val (.int (if (0 : Int32) < p2 then p2 else (0 : Int32))), .val (.int (if (0 : Int32) < p2 then p2 else (0 : Int32))), .val (.int (1 : Int32)), .val (.ref ua), .val (.ref ua)]) rfl ?_
            show Steps p.tables e below (T109.setTop (mkF m 246 #[.val (.int p0), .val (.int p1), .val (.int p2), .val (.int p3), .val (.int ee), .val (.int wg), .val (.int md), .val (.int ss), .val (.int (1 : Int32)), .val (.ref b71), .val (.int (if (0 : Int32) < p2 then p2 else (0 : Int32))), .val (.int (if (0 : Int32) < p2 then p2 else (0 : Int32))), .val (.int (1 : Int32)), .val (.ref ua), .val (.ref ua)] [])) _
            refine XS.aload X109.here hx rfl (hb hby at_246) rfl rfl ?_
            show Steps p.tables e below (T109.setTop (mkF m 248 #[.val (.int p0), .val (.int p1), .val (.int p2), .val (.int p3), .val (.int ee), .val (.int wg), .val (.int md), .val (.int ss), .val (.int (1 : Int32)), .val (.ref b71), .val (.int (if (0 : Int32) < p2 then p2 else (0 : Int32))), .val (.int (if (0 : Int32) < p2 then p2 else (0 : Int32))), .val (.int (1 : Int32)), .val (.ref ua), .val (.ref ua)] [(.ref ua)])) _
            refine XS.aload X109.here hx rfl (hb hby at_248) rfl rfl ?_
            show Steps p.tables e below (T109.setTop (mkF m 250 #[.val (.int p0), .val (.int p1), .val (.int p2), .val (.int p3), .val (.int ee), .val (.int wg), .val (.int md), .val (.int ss), .val (.int (1 : Int32)), .val (.ref b71), .val (.int (if (0 : Int32) < p2 then p2 else (0 : Int32))), .val (.int (if (0 : Int32) < p2 then p2 else (0 : Int32))), .val (.int (1 : Int32)), .val (.ref ua), .val (.ref ua)] [(.ref ua), (.ref ua)])) _
            refine Jvm.RoadKit.acmp (g := (mkF m 250 #[.val (.int p0), .val (.int p1), .val (.int p2), .val (.int p3), .val (.int ee), .val (.int wg), .val (.int md), .val (.int ss), .val (.int (1 : Int32)), .val (.ref b71), .val (.int (if (0 : Int32) < p2 then p2 else (0 : Int32))), .val (.int (if (0 : Int32) < p2 then p2 else (0 : Int32))), .val (.int (1 : Int32)), .val (.ref ua), .val (.ref ua)] [(.ref ua), (.ref ua)])) X109 hx rfl rfl rfl (pc0 := 250) (pc' := 253) (same := true) rfl (hb hby at_250) rfl (decide_eq_true rfl) (by decide) (by decide) ?_
            show Steps p.tables e below (T109.setTop (mkF m 253 #[.val (.int p0), .val (.int p1), .val (.int p2), .val (.int p3), .val (.int ee), .val (.int wg), .val (.int md), .val (.int ss), .val (.int (1 : Int32)), .val (.ref b71), .val (.int (if (0 : Int32) < p2 then p2 else (0 : Int32))), .val (.int (if (0 : Int32) < p2 then p2 else (0 : Int32))), .val (.int (1 : Int32)), .val (.ref ua), .val (.ref ua)] [])) _
            refine XS.iconst X109.here hx rfl (hb hby at_253) ?_
            show Steps p.tables e below (T109.setTop (mkF m 254 #[.val (.int p0), .val (.int p1), .val (.int p2), .val (.int p3), .val (.int ee), .val (.int wg), .val (.int md), .val (.int ss), .val (.int (1 : Int32)), .val (.ref b71), .val (.int (if (0 : Int32) < p2 then p2 else (0 : Int32))), .val (.int (if (0 : Int32) < p2 then p2 else (0 : Int32))), .val (.int (1 : Int32)), .val (.ref ua), .val (.ref ua)] [(.int (1 : Int32))])) _
            refine XS.goto X109.here hx rfl (pc0 := 254) (pc' := 258) rfl (hb hby at_254) (by decide) (by decide) ?_
            exact k
          obtain ⟨fs, hrq, hrun, hended, hW, hsame⟩ := X109.leave (v := some (.int (1 : Int32))) (fun h => by rw [Bd.returns] at h; cases h)
          refine ⟨_, _, pre110 _ ?_, hrun, hended, _, _, rfl, ?_, ⟨_, rfl⟩, hW, hsame.mono (by decide) (by decide)⟩
          · show Steps p.tables e below (T109.setTop (mkF m 258 #[.val (.int p0), .val (.int p1), .val (.int p2), .val (.int p3), .val (.int ee), .val (.int wg), .val (.int md), .val (.int ss), .val (.int (1 : Int32)), .val (.ref b71), .val (.int (if (0 : Int32) < p2 then p2 else (0 : Int32))), .val (.int (if (0 : Int32) < p2 then p2 else (0 : Int32))), .val (.int (1 : Int32)), .val (.ref ua), .val (.ref ua)] [(.int (1 : Int32))])) _
            exact retN X109 hx (t := .boolean) Bd.returns (by simp) (hb hby at_258) hrq
          · show Q0 Z p0 p1 p2 p3 ug ua h0 n0 _ T109.heap _
            rw [e109]
            exact ⟨rfl, N106⟩
      · have pre111 : ∀ t, Steps p.tables e below (T84.setTop (mkF m 213 #[.val (.int p0), .val (.int p1), .val (.int p2), .val (.int p3), .val (.int ee), .val (.int wg), .val (.int md), .val (.int ss), .val (.int (1 : Int32)), .val (.ref b71), .val (.int (if (0 : Int32) < p2 then p2 else (0 : Int32))), .val (.int (if (0 : Int32) < p2 then p2 else (0 : Int32))), .val (.int (0 : Int32)), .unset, .unset] [(.int (2147483647 : Int32)), (.int ss)])) t → Steps p.tables e below (s₁.setTop (entryFrame m #[(.int p0), (.int p1), (.int p2), (.int p3)] maxLocals)) t := fun t k => by
          refine pre99 t ?_
          show Steps p.tables e below (T84.setTop (mkF m 199 #[.val (.int p0), .val (.int p1), .val (.int p2), .val (.int p3), .val (.int ee), .val (.int wg), .val (.int md), .val (.int ss), .val (.int (1 : Int32)), .val (.ref b71), .val (.int (if (0 : Int32) < p2 then p2 else (0 : Int32))), .val (.int (if (0 : Int32) < p2 then p2 else (0 : Int32))), .unset, .unset, .unset] [(.int (if (0 : Int32) < p2 then p2 else (0 : Int32)))])) _
          refine XS.ifYes X84.here hx rfl (pc0 := 199) (pc' := 206) rfl (hb hby at_199) rfl ((if0 _ _).trans (flt hc199_100).2.2.2) (by decide) (by decide) ?_
          show Steps p.tables e below (T84.setTop (mkF m 206 #[.val (.int p0), .val (.int p1), .val (.int p2), .val (.int p3), .val (.int ee), .val (.int wg), .val (.int md), .val (.int ss), .val (.int (1 : Int32)), .val (.ref b71), .val (.int (if (0 : Int32) < p2 then p2 else (0 : Int32))), .val (.int (if (0 : Int32) < p2 then p2 else (0 : Int32))), .unset, .unset, .unset] [])) _
          refine XS.iconst X84.here hx rfl (hb hby at_206) ?_
          show Steps p.tables e below (T84.setTop (mkF m 207 #[.val (.int p0), .val (.int p1), .val (.int p2), .val (.int p3), .val (.int ee), .val (.int wg), .val (.int md), .val (.int ss), .val (.int (1 : Int32)), .val (.ref b71), .val (.int (if (0 : Int32) < p2 then p2 else (0 : Int32))), .val (.int (if (0 : Int32) < p2 then p2 else (0 : Int32))), .unset, .unset, .unset] [(.int (0 : Int32))])) _
          refine XS.istore X84.here hx rfl (hb hby at_207) rfl (l' := #[.val (.int p0), .val (.int p1), .val (.int p2), .val (.int p3), .val (.int ee), .val (.int wg), .val (.int md), .val (.int ss), .val (.int (1 : Int32)), .val (.ref b71), .val (.int (if (0 : Int32) < p2 then p2 else (0 : Int32))), .val (.int (if (0 : Int32) < p2 then p2 else (0 : Int32))), .val (.int (0 : Int32)), .unset, .unset]) rfl ?_
          show Steps p.tables e below (T84.setTop (mkF m 209 #[.val (.int p0), .val (.int p1), .val (.int p2), .val (.int p3), .val (.int ee), .val (.int wg), .val (.int md), .val (.int ss), .val (.int (1 : Int32)), .val (.ref b71), .val (.int (if (0 : Int32) < p2 then p2 else (0 : Int32))), .val (.int (if (0 : Int32) < p2 then p2 else (0 : Int32))), .val (.int (0 : Int32)), .unset, .unset] [])) _
          refine XS.iload X84.here hx rfl (hb hby at_209) rfl ?_
          show Steps p.tables e below (T84.setTop (mkF m 211 #[.val (.int p0), .val (.int p1), .val (.int p2), .val (.int p3), .val (.int ee), .val (.int wg), .val (.int md), .val (.int ss), .val (.int (1 : Int32)), .val (.ref b71), .val (.int (if (0 : Int32) < p2 then p2 else (0 : Int32))), .val (.int (if (0 : Int32) < p2 then p2 else (0 : Int32))), .val (.int (0 : Int32)), .unset, .unset] [(.int ss)])) _
          refine X84.ldcInt hx hown (mvT hZ (hw _ (List.mem_of_getElem? (i := 40) rfl))) (g := (mkF m 211 #[.val (.int p0), .val (.int p1), .val (.int p2), .val (.int p3), .val (.int ee), .val (.int wg), .val (.int md), .val (.int ss), .val (.int (1 : Int32)), .val (.ref b71), .val (.int (if (0 : Int32) < p2 then p2 else (0 : Int32))), .val (.int (if (0 : Int32) < p2 then p2 else (0 : Int32))), .val (.int (0 : Int32)), .unset, .unset] [(.int ss)])) rfl (hb hby at_211) _ ?_
          exact k
        by_cases hc213_112 : ss = (2147483647 : Int32)
        · have pre113 : ∀ t, Steps p.tables e below (T84.setTop (mkF m 217 #[.val (.int p0), .val (.int p1), .val (.int p2), .val (.int p3), .val (.int ee), .val (.int wg), .val (.int md), .val (.int ss), .val (.int (1 : Int32)), .val (.ref b71), .val (.int (if (0 : Int32) < p2 then p2 else (0 : Int32))), .val (.int (if (0 : Int32) < p2 then p2 else (0 : Int32))), .val (.int (0 : Int32)), .unset, .unset] [(.int (1 : Int32))])) t → Steps p.tables e below (s₁.setTop (entryFrame m #[(.int p0), (.int p1), (.int p2), (.int p3)] maxLocals)) t := fun t k => by
            refine pre111 t ?_
            show Steps p.tables e below (T84.setTop (mkF m 213 #[.val (.int p0), .val (.int p1), .val (.int p2), .val (.int p3), .val (.int ee), .val (.int wg), .val (.int md), .val (.int ss), .val (.int (1 : Int32)), .val (.ref b71), .val (.int (if (0 : Int32) < p2 then p2 else (0 : Int32))), .val (.int (if (0 : Int32) < p2 then p2 else (0 : Int32))), .val (.int (0 : Int32)), .unset, .unset] [(.int (2147483647 : Int32)), (.int ss)])) _
            refine XS.icmpNo X84.here hx rfl (hb hby at_213) rfl (teq hc213_112).2 ?_
            show Steps p.tables e below (T84.setTop (mkF m 216 #[.val (.int p0), .val (.int p1), .val (.int p2), .val (.int p3), .val (.int ee), .val (.int wg), .val (.int md), .val (.int ss), .val (.int (1 : Int32)), .val (.ref b71), .val (.int (if (0 : Int32) < p2 then p2 else (0 : Int32))), .val (.int (if (0 : Int32) < p2 then p2 else (0 : Int32))), .val (.int (0 : Int32)), .unset, .unset] [])) _
            refine XS.iconst X84.here hx rfl (hb hby at_216) ?_
            exact k
          obtain ⟨fs, hrq, hrun, hended, hW, hsame⟩ := X84.leave (v := some (.int (1 : Int32))) (fun h => by rw [Bd.returns] at h; cases h)
          refine ⟨_, _, pre113 _ ?_, hrun, hended, _, _, rfl, ?_, ⟨_, rfl⟩, hW, hsame.mono (by decide) (by decide)⟩
          · show Steps p.tables e below (T84.setTop (mkF m 217 #[.val (.int p0), .val (.int p1), .val (.int p2), .val (.int p3), .val (.int ee), .val (.int wg), .val (.int md), .val (.int ss), .val (.int (1 : Int32)), .val (.ref b71), .val (.int (if (0 : Int32) < p2 then p2 else (0 : Int32))), .val (.int (if (0 : Int32) < p2 then p2 else (0 : Int32))), .val (.int (0 : Int32)), .unset, .unset] [(.int (1 : Int32))])) _
            exact retN X84 hx (t := .boolean) Bd.returns (by simp) (hb hby at_217) hrq
          · show Q0 Z p0 p1 p2 p3 ug ua h0 n0 _ T84.heap _
            rw [e84]
            exact ⟨rfl, N84⟩
        · have c114 : Sta Z T82.heap "com/example/depthwire/depthwire/InboundSeqNums$Verdict" "GAP" "Lcom/example/depthwire/depthwire/InboundSeqNums$Verdict;" (.ref ug) := (own_sta_keep c79 Kq82 (allS (own_plain_exa Eq77) all0))
          have c115 : Sta Z T82.heap "com/example/depthwire/depthwire/InboundSeqNums$Verdict" "GAP_ASKED" "Lcom/example/depthwire/depthwire/InboundSeqNums$Verdict;" (.ref ua) := (own_sta_keep (own_sta_keep c76 Kq77 (allS (own_plain_exa Eq73) all0)) Kq82 (allS (own_plain_exa Eq77) all0))
          obtain ⟨cq116, kq116, q116a, q116b, q116c⟩ := isOf hZ e84 Eq82
          obtain ⟨_, _, ⟨T116, L116, k116, n116⟩, -, X116, ⟨Lc116, hQ116, l116, y116, z116⟩, st116⟩ := X84.virtualBack hx (y := (⟨"com/example/depthwire/depthwire/InboundSeqNums", "receive", "(IZ)Lcom/example/depthwire/depthwire/InboundSeqNums$Verdict;"⟩ : MethodName)) (z := (⟨"com/example/depthwire/depthwire/InboundSeqNums", "receive", "(IZ)Lcom/example/depthwire/depthwire/InboundSeqNums$Verdict;"⟩ : MethodName)) hown (mvT hZ (hw _ (List.mem_of_getElem? (i := 18) rfl))) (mvT hZ (hw _ (List.mem_of_getElem? (i := 19) rfl))) (notFace_of_selects (args := #[]) (mvT hZ (hw _ (List.mem_of_getElem? (i := 21) rfl)))) (mvT hZ (hw _ (List.mem_of_getElem? (i := 21) rfl))) (mvT hZ (hw _ (List.mem_of_getElem? (i := 20) rfl))) (by decide) (backOf (W := 0) (rm5 l Z a0 hw [] b71 (ss + (1 : Int32)) (0 : Int32) ss (if (0 : Int32) < p2 then p2 else (0 : Int32)) ug ua ug T82.heap n0 Z83 Eq82 Fe82 Fx98 g_b71 c114 c115 (own_succ hc213_112) (if_neg hc199_100)) hZ (hw _ (List.mem_of_getElem? (i := 22) rfl)) (hw _ (List.mem_of_getElem? (i := 9) rfl)) (by decide) (by decide)) q116a q116c (g := (mkF m 225 #[.val (.int p0), .val (.int p1), .val (.int p2), .val (.int p3), .val (.int ee), .val (.int wg), .val (.int md), .val (.int ss), .val (.int (1 : Int32)), .val (.ref b71), .val (.int (if (0 : Int32) < p2 then p2 else (0 : Int32))), .val (.int (if (0 : Int32) < p2 then p2 else (0 : Int32))), .val (.int (0 : Int32)), .unset, .unset] [(.int (0 : Int32)), (.int (ss + (1 : Int32))), (.ref b71)])) rfl (by rw [hml]; rfl) (Steps.refl _) (argsL := [(.int (ss + (1 : Int32))), (.int (0 : Int32))]) (rest := []) (lenOf pd_3 rfl) rfl (by show 2 * 0 + _ ≤ _; exact Nat.le_of_eq rfl) (hb hby at_225) (fun _ _ => ⟨rfl, e84, (by decide : 1 + 0 ≤ _), (by decide : 2 + 0 ≤ _)⟩)
          dsimp only [Pt.U, Pt.locs, Pt.cells, Pt.slots] at X116 l116 y116 z116 st116 hQ116
          subst l116 y116 z116
          obtain ⟨rfl, Nq116, Kq116, Eq116, Fe116, Fa116⟩ := hQ116
          have N116 := Fr.app N84 Nq116
          have Z117 : n0 ≤ T116.heap.size := Nat.le_trans Z83 Kq116.1
          have c118 : Sta Z T116.heap "com/example/depthwire/depthwire/InboundSeqNums$Verdict" "GAP" "Lcom/example/depthwire/depthwire/InboundSeqNums$Verdict;" (.ref ug) := (own_sta_keep c114 Kq116 (allS (own_plain_exa Eq82) all0))
          obtain ⟨T119, X119, e119, st119⟩ := getS2 X116 hx hZ hown (host := "") (Or.inl (hw _ (List.mem_of_getElem? (i := 29) rfl))) Via.refl rfl c118 (g := (mkF m 241 #[.val (.int p0), .val (.int p1), .val (.int p2), .val (.int p3), .val (.int ee), .val (.int wg), .val (.int md), .val (.int ss), .val (.int (1 : Int32)), .val (.ref b71), .val (.int (if (0 : Int32) < p2 then p2 else (0 : Int32))), .val (.int (if (0 : Int32) < p2 then p2 else (0 : Int32))), .val (.int (0 : Int32)), .val (.ref ug), .unset] [])) rfl (hb hby at_241)
          have pre120 : ∀ t, Steps p.tables e below (T119.setTop (mkF m 258 #[.val (.int p0), .val (.int p1), .val (.int p2), .val (.int p3), .val (.int ee), .val (.int wg), .val (.int md), .val (.int ss), .val (.int (1 : Int32)), .val (.ref b71), .val (.int (if (0 : Int32) < p2 then p2 else (0 : Int32))), .val (.int (if (0 : Int32) < p2 then p2 else (0 : Int32))), .val (.int (0 : Int32)), .val (.ref ug), .val (.ref ug)] [(.int (1 : Int32))])) t → Steps p.tables e below (s₁.setTop (entryFrame m #[(.int p0), (.int p1), (.int p2), (.int p3)] maxLocals)) t := fun t k => by
            refine pre111 t ?_
            show Steps p.tables e below (T84.setTop (mkF m 213 #[.val (.int p0), .val (.int p1), .val (.int p2), .val (.int p3), .val (.int ee), .val (.int wg), .val (.int md), .val (.int ss), .val (.int (1 : Int32)), .val (.ref b71), .val (.int (if (0 : Int32) < p2 then p2 else (0 : Int32))), .val (.int (if (0 : Int32) < p2 then p2 else (0 : Int32))), .val (.int (0 : Int32)), .unset, .unset] [(.int (2147483647 : Int32)), (.int ss)])) _
            refine XS.icmpYes X84.here hx rfl (pc0 := 213) (pc' := 218) rfl (hb hby at_213) rfl (feq hc213_112).2 (by decide) (by decide) ?_
            show Steps p.tables e below (T84.setTop (mkF m 218 #[.val (.int p0), .val (.int p1), .val (.int p2), .val (.int p3), .val (.int ee), .val (.int wg), .val (.int md), .val (.int ss), .val (.int (1 : Int32)), .val (.ref b71), .val (.int (if (0 : Int32) < p2 then p2 else (0 : Int32))), .val (.int (if (0 : Int32) < p2 then p2 else (0 : Int32))), .val (.int (0 : Int32)), .unset, .unset] [])) _
            refine XS.aload X84.here hx rfl (hb hby at_218) rfl rfl ?_
            show Steps p.tables e below (T84.setTop (mkF m 220 #[.val (.int p0), .val (.int p1), .val (.int p2), .val (.int p3), .val (.int ee), .val (.int wg), .val (.int md), .val (.int ss), .val (.int (1 : Int32)), .val (.ref b71), .val (.int (if (0 : Int32) < p2 then p2 else (0 : Int32))), .val (.int (if (0 : Int32) < p2 then p2 else (0 : Int32))), .val (.int (0 : Int32)), .unset, .unset] [(.ref b71)])) _
            refine XS.iload X84.here hx rfl (hb hby at_220) rfl ?_
            show Steps p.tables e below (T84.setTop (mkF m 222 #[.val (.int p0), .val (.int p1), .val (.int p2), .val (.int p3), .val (.int ee), .val (.int wg), .val (.int md), .val (.int ss), .val (.int (1 : Int32)), .val (.ref b71), .val (.int (if (0 : Int32) < p2 then p2 else (0 : Int32))), .val (.int (if (0 : Int32) < p2 then p2 else (0 : Int32))), .val (.int (0 : Int32)), .unset, .unset] [(.int ss), (.ref b71)])) _
            refine XS.iconst X84.here hx rfl (hb hby at_222) ?_
            show Steps p.tables e below (T84.setTop (mkF m 223 #[.val (.int p0), .val (.int p1), .val (.int p2), .val (.int p3), .val (.int ee), .val (.int wg), .val (.int md), .val (.int ss), .val (.int (1 : Int32)), .val (.ref b71), .val (.int (if (0 : Int32) < p2 then p2 else (0 : Int32))), .val (.int (if (0 : Int32) < p2 then p2 else (0 : Int32))), .val (.int (0 : Int32)), .unset, .unset] [(.int (1 : Int32)), (.int ss), (.ref b71)])) _
            refine XS.iadd X84.here hx rfl (hb hby at_223) rfl ?_
            show Steps p.tables e below (T84.setTop (mkF m 224 #[.val (.int p0), .val (.int p1), .val (.int p2), .val (.int p3), .val (.int ee), .val (.int wg), .val (.int md), .val (.int ss), .val (.int (1 : Int32)), .val (.ref b71), .val (.int (if (0 : Int32) < p2 then p2 else (0 : Int32))), .val (.int (if (0 : Int32) < p2 then p2 else (0 : Int32))), .val (.int (0 : Int32)), .unset, .unset] [(.int (ss + (1 : Int32))), (.ref b71)])) _
            refine XS.iconst X84.here hx rfl (hb hby at_224) ?_
            show Steps p.tables e below (T84.setTop (mkF m 225 #[.val (.int p0), .val (.int p1), .val (.int p2), .val (.int p3), .val (.int ee), .val (.int wg), .val (.int md), .val (.int ss), .val (.int (1 : Int32)), .val (.ref b71), .val (.int (if (0 : Int32) < p2 then p2 else (0 : Int32))), .val (.int (if (0 : Int32) < p2 then p2 else (0 : Int32))), .val (.int (0 : Int32)), .unset, .unset] [(.int (0 : Int32)), (.int (ss + (1 : Int32))), (.ref b71)])) _
            refine st116.trans ?_
            show Steps p.tables e below (T116.setTop (mkF m 228 #[.val (.int p0), .val (.int p1), .val (.int p2), .val (.int p3), .val (.int ee), .val (.int wg), .val (.int md), .val (.int ss), .val (.int (1 : Int32)), .val (.ref b71), .val (.int (if (0 : Int32) < p2 then p2 else (0 : Int32))), .val (.int (if (0 : Int32) < p2 then p2 else (0 : Int32))), .val (.int (0 : Int32)), .unset, .unset] [(.ref ug)])) _
            refine XS.astore X116.here hx rfl (hb hby at_228) rfl rfl (l' := #[.val (.int p0), .val (.int p1), .val (.int p2), .val (.int p3), .val (.int ee), .val (.int wg), .val (.int md), .val (.int ss), .val (.int (1 : Int32)), .val (.ref b71), .val (.int (if (0 : Int32) < p2 then p2 else (0 : Int32))), .val (.int (if (0 : Int32) < p2 then p2 else (0 : Int32))), .val (.int (0 : Int32)), .val (.ref ug), .unset]) rfl ?_
            show Steps p.tables e below (T116.setTop (mkF m 230 #[.val (.int p0), .val (.int p1), .val (.int p2), .val (.int p3), .val (.int ee), .val (.int wg), .val (.int md), .val (.int ss), .val (.int (1 : Int32)), .val (.ref b71), .val (.int (if (0 : Int32) < p2 then p2 else (0 : Int32))), .val (.int (if (0 : Int32) < p2 then p2 else (0 : Int32))), .val (.int (0 : Int32)), .val (.ref ug), .unset] [])) _
            refine XS.iload X116.here hx rfl (hb hby at_230) rfl ?_
            show Steps p.tables e below (T116.setTop (mkF m 232 #[.val (.int p0), .val (.int p1), .val (.int p2), .val (.int p3), .val (.int ee), .val (.int wg), .val (.int md), .val (.int ss), .val (.int (1 : Int32)), .val (.ref b71), .val (.int (if (0 : Int32) < p2 then p2 else (0 : Int32))), .val (.int (if (0 : Int32) < p2 then p2 else (0 : Int32))), .val (.int (0 : Int32)), .val (.ref ug), .unset] [(.int (0 : Int32))])) _
            refine XS.ifYes X116.here hx rfl (pc0 := 232) (pc' := 241) rfl (hb hby at_232) rfl ((if0 _ _).trans (teq (by decide : (0 : Int32) = (0 : Int32))).1) (by decide) (by decide) ?_
            show Steps p.tables e below (T116.setTop (mkF m 241 #[.val (.int p0), .val (.int p1), .val (.int p2), .val (.int p3), .val (.int ee), .val (.int wg), .val (.int md), .val (.int ss), .val (.int (1 : Int32)), .val (.ref b71), .val (.int (if (0 : Int32) < p2 then p2 else (0 : Int32))), .val (.int (if (0 : Int32) < p2 then p2 else (0 : Int32))), .val (.int (0 : Int32)), .val (.ref ug), .unset] [])) _
            refine st119 _ ?_
            show Steps p.tables e below (T119.setTop (mkF m 244 #[.val (.int p0), .val (.int p1), .val (.int p2), .val (.int p3), .val (.int ee), .val (.int wg), .val (.int md), .val (.int ss), .val (.int (1 : Int32)), .val (.ref b71), .val (.int (if (0 : Int32) < p2 then p2 else (0 : Int32))), .val (.int (if (0 : Int32) < p2 then p2 else (0 : Int32))), .val (.int (0 : Int32)), .val (.ref ug), .unset] [(.ref ug)])) _
            refine XS.astore X119.here hx rfl (hb hby at_244) rfl rfl (l' := #[.val (.int p0), .val (.int p1), .val (.int p2), .val (.int p3), .val (.int ee), .val (.int wg), .val (.int md), .val (.int ss), .val (.int (1 : Int32)), .val (.ref b71), .val (.int (if (0 : Int32) < p2 then p2 else (0 : Int32))), .val (.int (if (0 : Int32) < p2 then p2 else (0 : Int32))), .val (.int (0 : Int32)), .val (.ref ug), .val (.ref ug)]) rfl ?_
            show Steps p.tables e below (T119.setTop (mkF m 246 #[.val (.int p0), .val (.int p1), .val (.int p2), .val (.int p3), .val (.int ee), .val (.int wg), .val (.int md), .val (.int ss), .val (.int (1 : Int32)), .val (.ref b71), .val (.int (if (0 : Int32) < p2 then p2 else (0 : Int32))), .val (.int (if (0 : Int32) < p2 then p2 else (0 : Int32))), .val (.int (0 : Int32)), .val (.ref ug), .val (.ref ug)] [])) _
            refine XS.aload X119.here hx rfl (hb hby at_246) rfl rfl ?_
            show Steps p.tables e below (T119.setTop (mkF m 248 #[.val (.int p0), .val (.int p1), .val (.int p2), .val (.int p3), .val (.int ee), .val (.int wg), .val (.int md), .val (.int ss), .val (.int (1 : Int32)), .val (.ref b71), .val (.int (if (0 : Int32) < p2 then p2 else (0 : Int32))), .val (.int (if (0 : Int32) < p2 then p2 else (0 : Int32))), .val (.int (0 : Int32)), .val (.ref ug), .val (.ref ug)] [(.ref ug)])) _
            refine XS.aload X119.here hx rfl (hb hby at_248) rfl rfl ?_
            show Steps p.tables e below (T119.setTop (mkF m 250 #[.val (.int p0), .val (.int p1), .val (.int p2), .val (.int p3), .val (.int ee), .val (.int wg), .val (.int md), .val (.int ss), .val (.int (1 : Int32)), .val (.ref b71), .val (.int (if (0 : Int32) < p2 then p2 else (0 : Int32))), .val (.int (if (0 : Int32) < p2 then p2 else (0 : Int32))), .val (.int (0 : Int32)), .val (.ref ug), .val (.ref ug)] [(.ref ug), (.ref ug)])) _
            refine Jvm.RoadKit.acmp (g := (mkF m 250 #[.val (.int p0), .val (.int p1), .val (.int p2), .val (.int p3), .val (.int ee), .val (.int wg), .val (.int md), .val (.int ss), .val (.int (1 : Int32)), .val (.ref b71), .val (.int (if (0 : Int32) < p2 then p2 else (0 : Int32))), .val (.int (if (0 : Int32) < p2 then p2 else (0 : Int32))), .val (.int (0 : Int32)), .val (.ref ug), .val (.ref ug)] [(.ref ug), (.ref ug)])) X119 hx rfl rfl rfl (pc0 := 250) (pc' := 253) (same := true) rfl (hb hby at_250) rfl (decide_eq_true rfl) (by decide) (by decide) ?_
            show Steps p.tables e below (T119.setTop (mkF m 253 #[.val (.int p0), .val (.int p1), .val (.int p2), .val (.int p3), .val (.int ee), .val (.int wg), .val (.int md), .val (.int ss), .val (.int (1 : Int32)), .val (.ref b71), .val (.int (if (0 : Int32) < p2 then p2 else (0 : Int32))), .val (.int (if (0 : Int32) < p2 then p2 else (0 : Int32))), .val (.int (0 : Int32)), .val (.ref ug), .val (.ref ug)] [])) _
            refine XS.iconst X119.here hx rfl (hb hby at_253) ?_
            show Steps p.tables e below (T119.setTop (mkF m 254 #[.val (.int p0), .val (.int p1), .val (.int p2), .val (.int p3), .val (.int ee), .val (.int wg), .val (.int md), .val (.int ss), .val (.int (1 : Int32)), .val (.ref b71), .val (.int (if (0 : Int32) < p2 then p2 else (0 : Int32))), .val (.int (if (0 : Int32) < p2 then p2 else (0 : Int32))), .val (.int (0 : Int32)), .val (.ref ug), .val (.ref ug)] [(.int (1 : Int32))])) _
            refine XS.goto X119.here hx rfl (pc0 := 254) (pc' := 258) rfl (hb hby at_254) (by decide) (by decide) ?_
            exact k
          obtain ⟨fs, hrq, hrun, hended, hW, hsame⟩ := X119.leave (v := some (.int (1 : Int32))) (fun h => by rw [Bd.returns] at h; cases h)
          refine ⟨_, _, pre120 _ ?_, hrun, hended, _, _, rfl, ?_, ⟨_, rfl⟩, hW, hsame.mono (by decide) (by decide)⟩
          · show Steps p.tables e below (T119.setTop (mkF m 258 #[.val (.int p0), .val (.int p1), .val (.int p2), .val (.int p3), .val (.int ee), .val (.int wg), .val (.int md), .val (.int ss), .val (.int (1 : Int32)), .val (.ref b71), .val (.int (if (0 : Int32) < p2 then p2 else (0 : Int32))), .val (.int (if (0 : Int32) < p2 then p2 else (0 : Int32))), .val (.int (0 : Int32)), .val (.ref ug), .val (.ref ug)] [(.int (1 : Int32))])) _
            exact retN X119 hx (t := .boolean) Bd.returns (by simp) (hb hby at_258) hrq
          · show Q0 Z p0 p1 p2 p3 ug ua h0 n0 _ T119.heap _
            rw [e119]
            exact ⟨rfl, N116⟩
set_option maxRecDepth 65536 in
set_option maxHeartbeats 40000000 in
theorem comes_1 {Post : Tables → Env → Array Value → State → Outcome → State → Prop} (hpost : ∀ tb e args s v u, (limb_1_1.after args s (.returned v) u = true ∧ limb_1_2.after args s (.returned v) u = true ∧ True) → FrameEnd s (.returned v) u (Jvm.fieldLocs frame_1_writes args s ++ Jvm.arrayLocs frame_1_arrays args s ++ Jvm.staticLocs frame_1_statics s) 16 128 → Post tb e args s (.returned v) u) :
    ArmFor flags0 classFile x code maxLocals ret World_1 tables_1 room_1 Calls_1 rest_1 Pre_1 Post := by
  intro l hfl _ _ p e ha hc hk s m args below hf hA hF happ hP
  obtain ⟨hcalls, hrest, hpre⟩ := hP
  obtain ⟨-, -, -, hnamed, -, -, -, hat⟩ := (Spec.applies_iff hf).mp happ
  obtain ⟨hg, hn⟩ := and_e (Cond.before_iff.mp (show (Jvm.Cond.and given_1 narrow_1).before args s = true from hpre))
  obtain ⟨gc, g0⟩ := and_e hg
  obtain ⟨ga0, g1⟩ := and_e g0
  obtain ⟨ga1, g2⟩ := and_e g1
  obtain ⟨ga2, g3⟩ := and_e g2
  have ga3 := g3
  obtain ⟨w0, w1, w2, w3, rfl⟩ : ∃ w0 w1 w2 w3 : Value, args = #[w0, w1, w2, w3] := by
    have hs : args.size = 4 := by simpa [Cond.value, given_1] using gc
    obtain ⟨L⟩ := args
    match L, hs with
    | [w0, w1, w2, w3], _ => exact ⟨w0, w1, w2, w3, rfl⟩
  have hw := fun d (hd : d ∈ tables_1) => atoms_spec (ws := Jvm.Cond.code x code maxLocals ret :: tables_1) hat d (List.mem_cons_of_mem _ hd)
  have hfit : Fit s := fun {y c} hc i hi => by
    obtain ⟨ha, rfl⟩ := Array.getElem?_eq_some_iff.mp hc
    have q := List.all_eq_true.mp ((Array.all_eq_true_iff_forall_mem.mp hF) _ (Array.getElem_mem ha)) i (List.mem_range.mpr hi)
    simpa [Array.getElem?_eq_getElem hi] using q
  obtain ⟨i0, ei0⟩ := is_v ga0
  obtain rfl : w0 = (.int i0) := Option.some.inj ei0
  obtain ⟨i1, ei1⟩ := is_v ga1
  obtain rfl : w1 = (.int i1) := Option.some.inj ei1
  obtain ⟨i2, ei2⟩ := is_v ga2
  obtain rfl : w2 = (.int i2) := Option.some.inj ei2
  obtain ⟨i3, ei3⟩ := is_v ga3
  obtain rfl : w3 = (.int i3) := Option.some.inj ei3
  obtain ⟨hx0, hx1⟩ := and_e hn
  obtain ⟨ug, eu0⟩ := exa_v hx0
  have S_g := Sta.start eu0 (Or.inr ⟨(hw _ (List.mem_of_getElem? (i := 27) rfl)), (hw _ (List.mem_of_getElem? (i := 28) rfl))⟩)
  obtain ⟨ua, eu1⟩ := exa_v hx1
  have S_a := Sta.start eu1 (Or.inr ⟨(hw _ (List.mem_of_getElem? (i := 27) rfl)), (hw _ (List.mem_of_getElem? (i := 42) rfl))⟩)
  obtain ⟨n, o, h1, h2, h3, _, L, rfl, ⟨rfl, N⟩, hq⟩ := rm0 l s _ hw tables_1 i0 i1 i2 i3 ug ua s.heap s.heap.size (Nat.le_refl _) S_g S_a p e ha hc hk s m _ below hf ((Spec.applies_iff_loose hf).mp happ).1 ⟨rfl, State.Warmed39.refl s, rfl⟩ trivial
  refine ⟨n, _, h1, h2, h3, hpost _ _ _ _ _ _ ⟨Cond.after_iff.mpr rfl, Cond.after_iff.mpr (eq_i res_at (Term.int_eval (1)) rfl), trivial⟩ ⟨hq.1, hq.2.1, (hq.2.2.sift fun y hy => Or.inr (N y hy)).mono (by decide) (by decide)⟩⟩
theorem main_1_1 : Claimed_1_1 := comes_1 fun _ _ _ _ _ _ h hF => ⟨h.1, hF⟩
theorem main_1_2 : Claimed_1_2 := comes_1 fun _ _ _ _ _ _ h hF => ⟨h.2.1, hF⟩
end Jvm.Pilot.@@N@@
namespace Jvm.Pilot.@@N@@
open Jvm Jvm.ClassFile Sem Op Lib Jvm.Free Jvm.Stand Jvm.Pilot.@@N@@.Jvm.D
/-! MADE BY PROGRAM (witnessworld.py) out of the Statement's table words and the real class files: 14 classes; the members and pool entries that the words name. The judged class is class 1, her method 1. -/
namespace start1
open Jvm.ClassFile
def u (s : String) : CpInfo := .utf8 (stringToUtf16 s)
/-- a pool by its gaps: so many unusable entries, then the entry; so many at the end -/
def gap : Nat → List CpInfo → List CpInfo
  | 0, r => r
  | n + 1, r => .unusable :: gap n r
def poolList (es : List (Nat × CpInfo)) (last : Nat) : List CpInfo := es.foldr (fun e r => gap e.1 (e.2 :: r)) (gap last [])
def pool (es : List (Nat × CpInfo)) (last : Nat) : Array CpInfo := ⟨poolList es last⟩
def fileOf (pool : Array CpInfo) (this : Nat) (attrs : Array Attribute := #[]) (ms : Array MethodInfo := #[]) (fl : Nat := 33) (sup : Nat := 0) (ifs : Array Nat := #[]) (fds : Array FieldInfo := #[]) : ClassFile where
  minorVersion := 0
  majorVersion := 65
  constantPool := pool
  accessFlags := fl
  thisClass := this
  superClass := sup
  interfaces := ifs
  fields := fds
  methods := ms
  attributes := attrs
def plain (name : String) (sup : Option ClassId) : Class where
  name := name
  kind := .ordinary
  loader := none
  accessFlags := 33
  super := sup
  interfaces := #[]
  cf := none
  fields := #[]
  methods := #[]
  instanceTypes := #[]
  staticTypes := #[]
  resolved := #[]
  callSites := []
  init := .initialized
  statics := none
  mirror := none

def pool0 : Array CpInfo := pool [(5, u "<init>"), (0, u "()V"), (1, .class_ 10), (1, u "java/lang/Object")] 113

def k0c0 : Code := { maxStack := 0, maxLocals := 1, code := object_method_1_code, exceptionTable := #[], attributes := #[] }
def k0m0 : Method := { name := "<init>", desc := "()V", sig := { parameters := [], returnType := none }, accessFlags := 1, code := some k0c0 }
/-- java/lang/Object -/
def k0 : Class := { plain "java/lang/Object" none with
  accessFlags := 33
  interfaces := #[]
  cf := some (fileOf pool0 8 #[] #[{ accessFlags := 1, nameIndex := 5, descriptorIndex := 6, attributes := #[] }] 33 0 #[] #[])
  fields := #[]
  methods := #[k0m0]
  instanceTypes := #[]
  staticTypes := #[]
  resolved := Array.replicate 124 none
  statics := none }

def pool1 : Array CpInfo := pool [(2, .class_ 4), (1, u "java/lang/Object"), (0, u "<init>"), (0, u "()V"), (0, .methodref 8 9), (0, .class_ 10), (0, .nameAndType 11 12), (0, u "java/lang/Math"), (0, u "min"), (0, u "(II)I"), (0, .methodref 8 14), (0, .nameAndType 15 12), (0, u "max"), (2, .integer 2147483647), (0, .class_ 20), (0, u "com/example/depthwire/depthwire/InboundSeqNums"), (0, .methodref 19 22), (0, .nameAndType 5 23), (0, u "(I)V"), (0, .methodref 19 25), (0, .nameAndType 26 27), (0, u "receive"), (0, u "(IZ)Lcom/example/depthwire/depthwire/InboundSeqNums$Verdict;"), (0, .fieldref 29 30), (0, .class_ 31), (0, .nameAndType 32 33), (0, u "com/example/depthwire/depthwire/InboundSeqNums$Verdict"), (0, u "GAP"), (0, u "Lcom/example/depthwire/depthwire/InboundSeqNums$Verdict;"), (0, .methodref 19 35), (0, .nameAndType 36 23), (0, u "moveTo"), (0, .methodref 19 38), (0, .nameAndType 39 40), (0, u "expected"), (0, u "()I"), (0, .fieldref 29 42), (0, .nameAndType 43 33), (0, u "GAP_ASKED"), (0, .class_ 45), (0, u "com/example/depthwire/depthwire/InboundSeqNumsMoveToPinLaw"), (2, u "law"), (0, u "(IIII)Z")] 5

def k1m0 : Method := { name := "<init>", desc := "()V", sig := { parameters := [], returnType := none }, accessFlags := 1, code := none }
def k1c1 : Code := { maxStack := 3, maxLocals := 15, code := code, exceptionTable := #[], attributes := #[] }
def k1m1 : Method := { name := "law", desc := "(IIII)Z", sig := { parameters := [.int, .int, .int, .int], returnType := some .boolean }, accessFlags := 9, code := some k1c1 }
/-- com/example/depthwire/depthwire/InboundSeqNumsMoveToPinLaw -/
def k1 : Class := { plain "com/example/depthwire/depthwire/InboundSeqNumsMoveToPinLaw" (some 0) with
  accessFlags := 49
  interfaces := #[]
  cf := some (fileOf pool1 44 #[] #[{ accessFlags := 1, nameIndex := 5, descriptorIndex := 6, attributes := #[] }, { accessFlags := 9, nameIndex := 48, descriptorIndex := 49, attributes := #[] }] 49 2 #[] #[])
  fields := #[]
  methods := #[k1m0, k1m1]
  instanceTypes := #[]
  staticTypes := #[]
  resolved := Array.replicate 55 none
  statics := none }

def pool2 : Array CpInfo := pool [(1, .class_ 2), (0, u "java/lang/Math"), (1, .class_ 6), (1, u "java/lang/Object"), (0, u "<init>"), (0, u "()V"), (89, .class_ 100), (1, u "java/lang/Math$RandomNumberGeneratorHolder"), (71, u "negativeZeroFloatBits"), (0, u "J"), (2, u "negativeZeroDoubleBits"), (21, u "max"), (2, u "min"), (43, u "$assertionsDisabled"), (0, u "Z"), (88, u "(II)I"), (2, u "twoToTheDoubleScaleDown"), (0, u "D"), (4, u "twoToTheDoubleScaleUp"), (9, u "E"), (3, u "PI"), (2, u "TAU"), (2, u "DEGREES_TO_RADIANS"), (0, u "RADIANS_TO_DEGREES")] 94

def k2m0 : Method := { name := "<init>", desc := "()V", sig := { parameters := [], returnType := none }, accessFlags := 2, code := none }
def k2c1 : Code := { maxStack := 2, maxLocals := 2, code := jdk_29_method_65_code, exceptionTable := #[], attributes := #[] }
def k2m1 : Method := { name := "max", desc := "(II)I", sig := { parameters := [.int, .int], returnType := some .int }, accessFlags := 9, code := some k2c1 }
def k2c2 : Code := { maxStack := 2, maxLocals := 2, code := jdk_29_method_69_code, exceptionTable := #[], attributes := #[] }
def k2m2 : Method := { name := "min", desc := "(II)I", sig := { parameters := [.int, .int], returnType := some .int }, accessFlags := 9, code := some k2c2 }
/-- java/lang/Math -/
def k2 : Class := { plain "java/lang/Math" (some 0) with
  accessFlags := 49
  interfaces := #[]
  cf := some (fileOf pool2 1 #[.nestMembers #[98]] #[{ accessFlags := 2, nameIndex := 7, descriptorIndex := 8, attributes := #[] }, { accessFlags := 9, nameIndex := 198, descriptorIndex := 335, attributes := #[] }, { accessFlags := 9, nameIndex := 201, descriptorIndex := 335, attributes := #[] }] 49 4 #[] #[{ accessFlags := 25, nameIndex := 354, descriptorIndex := 339, attributes := #[] }, { accessFlags := 25, nameIndex := 358, descriptorIndex := 339, attributes := #[] }, { accessFlags := 25, nameIndex := 361, descriptorIndex := 339, attributes := #[] }, { accessFlags := 26, nameIndex := 364, descriptorIndex := 339, attributes := #[] }, { accessFlags := 26, nameIndex := 365, descriptorIndex := 339, attributes := #[] }, { accessFlags := 26, nameIndex := 172, descriptorIndex := 173, attributes := #[] }, { accessFlags := 26, nameIndex := 176, descriptorIndex := 173, attributes := #[] }, { accessFlags := 8, nameIndex := 344, descriptorIndex := 339, attributes := #[] }, { accessFlags := 8, nameIndex := 338, descriptorIndex := 339, attributes := #[] }, { accessFlags := 4120, nameIndex := 245, descriptorIndex := 246, attributes := #[] }])
  fields := #[{ name := "E", type := .double, accessFlags := 25, slot := 0, constantValue := 0 }, { name := "PI", type := .double, accessFlags := 25, slot := 1, constantValue := 0 }, { name := "TAU", type := .double, accessFlags := 25, slot := 2, constantValue := 0 }, { name := "DEGREES_TO_RADIANS", type := .double, accessFlags := 26, slot := 3, constantValue := 0 }, { name := "RADIANS_TO_DEGREES", type := .double, accessFlags := 26, slot := 4, constantValue := 0 }, { name := "negativeZeroFloatBits", type := .long, accessFlags := 26, slot := 5, constantValue := 0 }, { name := "negativeZeroDoubleBits", type := .long, accessFlags := 26, slot := 6, constantValue := 0 }, { name := "twoToTheDoubleScaleUp", type := .double, accessFlags := 8, slot := 7, constantValue := 0 }, { name := "twoToTheDoubleScaleDown", type := .double, accessFlags := 8, slot := 8, constantValue := 0 }, { name := "$assertionsDisabled", type := .boolean, accessFlags := 4120, slot := 9, constantValue := 0 }]
  methods := #[k2m0, k2m1, k2m2]
  instanceTypes := #[]
  staticTypes := #[.double, .double, .double, .double, .double, .long, .long, .double, .double, .boolean]
  resolved := Array.replicate 460 none
  statics := none }

def pool3 : Array CpInfo := pool [(1, .methodref 2 3), (0, .class_ 4), (0, .nameAndType 5 6), (0, u "java/lang/Object"), (0, u "<init>"), (0, u "()V"), (0, .fieldref 8 9), (0, .class_ 10), (0, .nameAndType 11 12), (0, u "com/example/depthwire/depthwire/InboundSeqNums"), (0, u "expected"), (0, u "I"), (1, .class_ 16), (1, u "com/example/depthwire/depthwire/InboundSeqNums$Verdict"), (1, u "Lcom/example/depthwire/depthwire/InboundSeqNums$Verdict;"), (3, .fieldref 8 23), (0, .nameAndType 24 12), (0, u "askedUpTo"), (0, .methodref 26 27), (0, .class_ 28), (0, .nameAndType 29 30), (0, u "java/lang/Math"), (0, u "max"), (0, u "(II)I"), (0, .fieldref 14 32), (0, .nameAndType 33 18), (0, u "GAP_ASKED"), (0, .fieldref 14 35), (0, .nameAndType 36 18), (0, u "GAP"), (0, .methodref 8 38), (0, .nameAndType 39 40), (0, u "moveTo"), (0, u "(I)V"), (5, u "()I"), (0, u "receive"), (0, u "(IZ)Lcom/example/depthwire/depthwire/InboundSeqNums$Verdict;")] 6

def k3c0 : Code := { maxStack := 2, maxLocals := 2, code := prog_18_method_1_code, exceptionTable := #[], attributes := #[] }
def k3m0 : Method := { name := "<init>", desc := "(I)V", sig := { parameters := [.int], returnType := none }, accessFlags := 0, code := some k3c0 }
def k3c1 : Code := { maxStack := 1, maxLocals := 1, code := prog_18_method_2_code, exceptionTable := #[], attributes := #[] }
def k3m1 : Method := { name := "expected", desc := "()I", sig := { parameters := [], returnType := some .int }, accessFlags := 0, code := some k3c1 }
def k3c2 : Code := { maxStack := 3, maxLocals := 4, code := prog_18_method_3_code, exceptionTable := #[], attributes := #[] }
def k3m2 : Method := { name := "receive", desc := "(IZ)Lcom/example/depthwire/depthwire/InboundSeqNums$Verdict;", sig := { parameters := [.int, .boolean], returnType := some (.object "com/example/depthwire/depthwire/InboundSeqNums$Verdict") }, accessFlags := 0, code := some k3c2 }
def k3c3 : Code := { maxStack := 2, maxLocals := 2, code := prog_18_method_4_code, exceptionTable := #[], attributes := #[] }
def k3m3 : Method := { name := "moveTo", desc := "(I)V", sig := { parameters := [.int], returnType := none }, accessFlags := 0, code := some k3c3 }
/-- com/example/depthwire/depthwire/InboundSeqNums -/
def k3 : Class := { plain "com/example/depthwire/depthwire/InboundSeqNums" (some 0) with
  accessFlags := 48
  interfaces := #[]
  cf := some (fileOf pool3 8 #[.nestMembers #[14]] #[{ accessFlags := 0, nameIndex := 5, descriptorIndex := 40, attributes := #[] }, { accessFlags := 0, nameIndex := 11, descriptorIndex := 46, attributes := #[] }, { accessFlags := 0, nameIndex := 47, descriptorIndex := 48, attributes := #[] }, { accessFlags := 0, nameIndex := 39, descriptorIndex := 40, attributes := #[] }] 48 2 #[] #[{ accessFlags := 2, nameIndex := 11, descriptorIndex := 12, attributes := #[] }, { accessFlags := 2, nameIndex := 24, descriptorIndex := 12, attributes := #[] }])
  fields := #[{ name := "expected", type := .int, accessFlags := 2, slot := 0, constantValue := 0 }, { name := "askedUpTo", type := .int, accessFlags := 2, slot := 1, constantValue := 0 }]
  methods := #[k3m0, k3m1, k3m2, k3m3]
  instanceTypes := #[.int, .int]
  staticTypes := #[]
  resolved := Array.replicate 55 none
  statics := none }

def pool4 : Array CpInfo := pool [(1, .class_ 2), (0, u "java/lang/constant/Constable"), (0, .class_ 4), (0, u "java/lang/Object")] 6

/-- java/lang/constant/Constable -/
def k4 : Class := { plain "java/lang/constant/Constable" (some 0) with
  accessFlags := 1537
  interfaces := #[]
  cf := some (fileOf pool4 1 #[] #[] 1537 3 #[] #[])
  fields := #[]
  methods := #[]
  instanceTypes := #[]
  staticTypes := #[]
  resolved := Array.replicate 11 none
  statics := none }

def pool5 : Array CpInfo := pool [(1, .class_ 2), (0, u "java/lang/Comparable"), (0, .class_ 4), (0, u "java/lang/Object")] 7

/-- java/lang/Comparable -/
def k5 : Class := { plain "java/lang/Comparable" (some 0) with
  accessFlags := 1537
  interfaces := #[]
  cf := some (fileOf pool5 1 #[] #[] 1537 3 #[] #[])
  fields := #[]
  methods := #[]
  instanceTypes := #[]
  staticTypes := #[]
  resolved := Array.replicate 12 none
  statics := none }

def pool6 : Array CpInfo := pool [(1, .class_ 2), (0, u "java/io/Serializable"), (0, .class_ 4), (0, u "java/lang/Object")] 2

/-- java/io/Serializable -/
def k6 : Class := { plain "java/io/Serializable" (some 0) with
  accessFlags := 1537
  interfaces := #[]
  cf := some (fileOf pool6 1 #[] #[] 1537 3 #[] #[])
  fields := #[]
  methods := #[]
  instanceTypes := #[]
  staticTypes := #[]
  resolved := Array.replicate 7 none
  statics := none }

def pool7 : Array CpInfo := pool [(2, .class_ 4), (1, u "java/lang/Enum"), (0, u "name"), (0, u "Ljava/lang/String;"), (2, u "ordinal"), (0, u "I"), (1, .class_ 14), (1, u "java/lang/Object"), (4, u "hash"), (86, .class_ 108), (1, u "java/lang/Enum$EnumDesc"), (2, .class_ 112), (0, u "java/lang/constant/Constable"), (0, .class_ 114), (0, u "java/lang/Comparable"), (0, .class_ 116), (0, u "java/io/Serializable")] 87

/-- java/lang/Enum -/
def k7 : Class := { plain "java/lang/Enum" (some 0) with
  accessFlags := 1057
  interfaces := #[4, 5, 6]
  cf := some (fileOf pool7 2 #[.nestMembers #[106]] #[] 1057 12 #[111, 113, 115] #[{ accessFlags := 18, nameIndex := 5, descriptorIndex := 6, attributes := #[] }, { accessFlags := 18, nameIndex := 9, descriptorIndex := 10, attributes := #[] }, { accessFlags := 2, nameIndex := 19, descriptorIndex := 10, attributes := #[] }])
  fields := #[{ name := "name", type := (.object "java/lang/String"), accessFlags := 18, slot := 0, constantValue := 0 }, { name := "ordinal", type := .int, accessFlags := 18, slot := 1, constantValue := 0 }, { name := "hash", type := .int, accessFlags := 2, slot := 2, constantValue := 0 }]
  methods := #[]
  instanceTypes := #[(.object "java/lang/String"), .int, .int]
  staticTypes := #[]
  resolved := Array.replicate 204 none
  statics := none }

def pool8 : Array CpInfo := pool [(1, .class_ 2), (0, u "com/example/depthwire/depthwire/InboundSeqNums$Verdict"), (2, u "NEXT"), (0, u "Lcom/example/depthwire/depthwire/InboundSeqNums$Verdict;"), (2, u "GAP"), (2, u "GAP_ASKED"), (2, u "DUPLICATE"), (2, u "TOO_LOW"), (2, u "$VALUES"), (0, u "[Lcom/example/depthwire/depthwire/InboundSeqNums$Verdict;"), (6, .class_ 31), (1, u "java/lang/Enum"), (28, .class_ 61), (0, u "com/example/depthwire/depthwire/InboundSeqNums")] 2

/-- com/example/depthwire/depthwire/InboundSeqNums$Verdict -/
def k8 : Class := { plain "com/example/depthwire/depthwire/InboundSeqNums$Verdict" (some 7) with
  accessFlags := 16432
  interfaces := #[]
  cf := some (fileOf pool8 1 #[.nestHost 60] #[] 16432 29 #[] #[{ accessFlags := 16409, nameIndex := 5, descriptorIndex := 6, attributes := #[] }, { accessFlags := 16409, nameIndex := 9, descriptorIndex := 6, attributes := #[] }, { accessFlags := 16409, nameIndex := 12, descriptorIndex := 6, attributes := #[] }, { accessFlags := 16409, nameIndex := 15, descriptorIndex := 6, attributes := #[] }, { accessFlags := 16409, nameIndex := 18, descriptorIndex := 6, attributes := #[] }, { accessFlags := 4122, nameIndex := 21, descriptorIndex := 22, attributes := #[] }])
  fields := #[{ name := "NEXT", type := (.object "com/example/depthwire/depthwire/InboundSeqNums$Verdict"), accessFlags := 16409, slot := 0, constantValue := 0 }, { name := "GAP", type := (.object "com/example/depthwire/depthwire/InboundSeqNums$Verdict"), accessFlags := 16409, slot := 1, constantValue := 0 }, { name := "GAP_ASKED", type := (.object "com/example/depthwire/depthwire/InboundSeqNums$Verdict"), accessFlags := 16409, slot := 2, constantValue := 0 }, { name := "DUPLICATE", type := (.object "com/example/depthwire/depthwire/InboundSeqNums$Verdict"), accessFlags := 16409, slot := 3, constantValue := 0 }, { name := "TOO_LOW", type := (.object "com/example/depthwire/depthwire/InboundSeqNums$Verdict"), accessFlags := 16409, slot := 4, constantValue := 0 }, { name := "$VALUES", type := (.array (.object "com/example/depthwire/depthwire/InboundSeqNums$Verdict")), accessFlags := 4122, slot := 5, constantValue := 0 }]
  methods := #[]
  instanceTypes := #[(.object "java/lang/String"), .int, .int]
  staticTypes := #[(.object "com/example/depthwire/depthwire/InboundSeqNums$Verdict"), (.object "com/example/depthwire/depthwire/InboundSeqNums$Verdict"), (.object "com/example/depthwire/depthwire/InboundSeqNums$Verdict"), (.object "com/example/depthwire/depthwire/InboundSeqNums$Verdict"), (.object "com/example/depthwire/depthwire/InboundSeqNums$Verdict"), (.array (.object "com/example/depthwire/depthwire/InboundSeqNums$Verdict"))]
  resolved := Array.replicate 64 none
  statics := some 0 }

def pool9 : Array CpInfo := pool [(1, u "java/lang/Cloneable"), (0, .class_ 1), (0, u "java/lang/Object"), (0, .class_ 3)] 3

/-- java/lang/Cloneable -/
def k9 : Class := { plain "java/lang/Cloneable" (some 0) with
  accessFlags := 1537
  interfaces := #[]
  cf := some (fileOf pool9 2 #[] #[] 1537 4 #[] #[])
  fields := #[]
  methods := #[]
  instanceTypes := #[]
  staticTypes := #[]
  resolved := Array.replicate 8 none
  statics := none }

/-- the primitive byte -/
def k10 : Class := { plain "byte" none with kind := .primitive 'B', accessFlags := 0x411 }
/-- [B -/
def k11 : Class := { plain "[B" (some 0) with kind := .array 10 .byte, interfaces := #[9, 6], accessFlags := 1041 }

/-- the primitive int -/
def k12 : Class := { plain "int" none with kind := .primitive 'I', accessFlags := 0x411 }
/-- [I -/
def k13 : Class := { plain "[I" (some 0) with kind := .array 12 .int, interfaces := #[9, 6], accessFlags := 1041 }

def heap : Heap := #[{ cls := 8, slots := #[.null, .ref 1, .ref 2, .null, .null, .null], vm := .statics 8 },
  { cls := 8, slots := #[.null, .int 2, .int 0], vm := .none },
  { cls := 8, slots := #[.null, .int 3, .int 0], vm := .none }]
def classes : Array Class := #[k0, k1, k2, k3, k4, k5, k6, k7, k8, k9, k10, k11, k12, k13]
def interned : List (Array UInt16 × Addr) := []
def slotsUsed : Nat := 12
def theMethod : MethodId := ⟨1, 1⟩
def args0 : Array Value := #[.int 3, .int 4, .int 5, .int 6]
def aboutOver (below : List Frame) : State where
  vm := { classes := classes, interned := interned.toArray }
  heap := heap
  slotsUsed := slotsUsed
  threads := #[{ frames := .invoking theMethod args0 :: below }]
def below0 : List Frame := [.native { method := ⟨0, 0⟩, args := #[] }]
def about1 : State := aboutOver below0
def p0 : Program := .bare "" "" ""
def e0 : Env := launch0.env 0 0 0
theorem w_frames : about1.frames = Frame.invoking theMethod args0 :: below0 := rfl
set_option maxRecDepth 65536 in
theorem w_args : argsFit about1.vm theMethod args0 = true := by decide +kernel
set_option maxRecDepth 65536 in
theorem w_heap : heapFits about1 = true := by decide +kernel
set_option maxRecDepth 65536 in
theorem w_runnable : about1.curStatus? = some .runnable := by decide +kernel
set_option maxRecDepth 65536 in
theorem w_alone : about1.alone = true := by decide +kernel
set_option maxRecDepth 65536 in
theorem w_named : about1.methodNamed? x = some theMethod := by decide +kernel
set_option maxRecDepth 65536 in
theorem w_hears : about1.hears theMethod below0 = true := by decide +kernel
set_option maxRecDepth 65536 in
theorem w_ripe : about1.ripe theMethod args0 below0 = true := by decide +kernel
theorem w_running : about1.status = .running := rfl
set_option maxRecDepth 65536 in
theorem w_room : about1.hasRoom e0.platform room_1 = true :=
  launch0.hasRoom_least _ room_1 (by decide +kernel) (by decide +kernel) (by decide +kernel) (by decide +kernel) (by decide +kernel) (by decide +kernel)
theorem allAtoms_all (ts : List Jvm.Cond) (a : Array Jvm.Value) (st : Jvm.State) : (allAtoms ts).before a st = ts.all (fun c => c.before a st) := by
  induction ts with
  | nil => rfl
  | cons c t ih =>
    show (Jvm.Cond.and c (allAtoms t)).before a st = _
    rw [Jvm.Cond.before_and, ih, List.all_cons]
def words1 : List Jvm.Cond := Jvm.Cond.code x code maxLocals ret :: tables_1
/-- a 'code' word, met by the world's own term for the bytes: nothing is compared byte by byte -/
theorem code_word {y : MethodName} {bytes : ByteArray} {mx : Nat} {rt : Option FieldType} {a : Array Value} {s : State} {m : MethodId} {meth : Method} {c : Code} (h1 : s.methodNamed? y = some m) (h2 : s.vm.method? m = some meth) (h3 : meth.code = some c) (h4 : c.code = bytes)
    (h5 : (c.maxLocals == mx && c.exceptionTable.isEmpty && decide (c.maxStack ≤ mostOperands) && decide (meth.sig.returnType = rt) && !meth.locks && decide (parseMethodDescriptor y.desc = some meth.sig)) = true) : (Jvm.Cond.code y bytes mx rt).before a s = true := by
  simp only [Bool.and_eq_true, beq_iff_eq, Bool.not_eq_true', decide_eq_true_eq] at h5
  obtain ⟨⟨⟨⟨⟨g1, g2⟩, g3⟩, g4⟩, g5⟩, g6⟩ := h5
  simp [Cond.before, Cond.holds, Cond.value, h1, h2, h3, h4, g1, g2, g3, g4, g5, g6]
def isCode : Jvm.Cond → Bool
  | .code _ _ _ _ => true
  | _ => false
theorem all_split {L : List Jvm.Cond} {P : Jvm.Cond → Bool} (h1 : L.all (fun c => isCode c || P c) = true) (h2 : ∀ c ∈ L.filter isCode, P c = true) : L.all P = true := by
  refine List.all_eq_true.mpr fun c hc => ?_
  have h := List.all_eq_true.mp h1 c hc
  rcases Bool.eq_false_or_eq_true (isCode c) with hi | hi
  · exact h2 c (List.mem_filter.mpr ⟨hc, hi⟩)
  · simpa [hi] using h
set_option maxRecDepth 65536 in
theorem w_c0 : (Jvm.Cond.code x code maxLocals ret).before args0 about1 = true := code_word (m := ⟨1, 1⟩) (meth := k1m1) (c := k1c1) (by decide +kernel) rfl rfl rfl (by decide +kernel)
set_option maxRecDepth 65536 in
theorem w_c1 : (Jvm.Cond.code ({ cls := "java/lang/Math", name := "min", desc := "(II)I" } : Jvm.MethodName) jdk_29_method_69_code (2 : Nat) (Option.some Jvm.ClassFile.FieldType.int)).before args0 about1 = true := code_word (m := ⟨2, 2⟩) (meth := k2m2) (c := k2c2) (by decide +kernel) rfl rfl rfl (by decide +kernel)
set_option maxRecDepth 65536 in
theorem w_c2 : (Jvm.Cond.code ({ cls := "java/lang/Math", name := "max", desc := "(II)I" } : Jvm.MethodName) jdk_29_method_65_code (2 : Nat) (Option.some Jvm.ClassFile.FieldType.int)).before args0 about1 = true := code_word (m := ⟨2, 1⟩) (meth := k2m1) (c := k2c1) (by decide +kernel) rfl rfl rfl (by decide +kernel)
set_option maxRecDepth 65536 in
theorem w_c3 : (Jvm.Cond.code ({ cls := "com/example/depthwire/depthwire/InboundSeqNums", name := "<init>", desc := "(I)V" } : Jvm.MethodName) prog_18_method_1_code (2 : Nat) (Option.none : Option Jvm.ClassFile.FieldType)).before args0 about1 = true := code_word (m := ⟨3, 0⟩) (meth := k3m0) (c := k3c0) (by decide +kernel) rfl rfl rfl (by decide +kernel)
set_option maxRecDepth 65536 in
theorem w_c4 : (Jvm.Cond.code ({ cls := "java/lang/Object", name := "<init>", desc := "()V" } : Jvm.MethodName) object_method_1_code (1 : Nat) (Option.none : Option Jvm.ClassFile.FieldType)).before args0 about1 = true := code_word (m := ⟨0, 0⟩) (meth := k0m0) (c := k0c0) (by decide +kernel) rfl rfl rfl (by decide +kernel)
set_option maxRecDepth 65536 in
theorem w_c5 : (Jvm.Cond.code ({ cls := "com/example/depthwire/depthwire/InboundSeqNums", name := "receive", desc := "(IZ)Lcom/example/depthwire/depthwire/InboundSeqNums$Verdict;" } : Jvm.MethodName) prog_18_method_3_code (4 : Nat) (Option.some (Jvm.ClassFile.FieldType.object "com/example/depthwire/depthwire/InboundSeqNums$Verdict"))).before args0 about1 = true := code_word (m := ⟨3, 2⟩) (meth := k3m2) (c := k3c2) (by decide +kernel) rfl rfl rfl (by decide +kernel)
set_option maxRecDepth 65536 in
theorem w_c6 : (Jvm.Cond.code ({ cls := "com/example/depthwire/depthwire/InboundSeqNums", name := "moveTo", desc := "(I)V" } : Jvm.MethodName) prog_18_method_4_code (2 : Nat) (Option.none : Option Jvm.ClassFile.FieldType)).before args0 about1 = true := code_word (m := ⟨3, 3⟩) (meth := k3m3) (c := k3c3) (by decide +kernel) rfl rfl rfl (by decide +kernel)
set_option maxRecDepth 65536 in
theorem w_c7 : (Jvm.Cond.code ({ cls := "com/example/depthwire/depthwire/InboundSeqNums", name := "expected", desc := "()I" } : Jvm.MethodName) prog_18_method_2_code (1 : Nat) (Option.some Jvm.ClassFile.FieldType.int)).before args0 about1 = true := code_word (m := ⟨3, 1⟩) (meth := k3m1) (c := k3c1) (by decide +kernel) rfl rfl rfl (by decide +kernel)
def codes1 : List Jvm.Cond := [Jvm.Cond.code x code maxLocals ret, Jvm.Cond.code ({ cls := "java/lang/Math", name := "min", desc := "(II)I" } : Jvm.MethodName) jdk_29_method_69_code (2 : Nat) (Option.some Jvm.ClassFile.FieldType.int), Jvm.Cond.code ({ cls := "java/lang/Math", name := "max", desc := "(II)I" } : Jvm.MethodName) jdk_29_method_65_code (2 : Nat) (Option.some Jvm.ClassFile.FieldType.int), Jvm.Cond.code ({ cls := "com/example/depthwire/depthwire/InboundSeqNums", name := "<init>", desc := "(I)V" } : Jvm.MethodName) prog_18_method_1_code (2 : Nat) (Option.none : Option Jvm.ClassFile.FieldType), Jvm.Cond.code ({ cls := "java/lang/Object", name := "<init>", desc := "()V" } : Jvm.MethodName) object_method_1_code (1 : Nat) (Option.none : Option Jvm.ClassFile.FieldType), Jvm.Cond.code ({ cls := "com/example/depthwire/depthwire/InboundSeqNums", name := "receive", desc := "(IZ)Lcom/example/depthwire/depthwire/InboundSeqNums$Verdict;" } : Jvm.MethodName) prog_18_method_3_code (4 : Nat) (Option.some (Jvm.ClassFile.FieldType.object "com/example/depthwire/depthwire/InboundSeqNums$Verdict")), Jvm.Cond.code ({ cls := "com/example/depthwire/depthwire/InboundSeqNums", name := "moveTo", desc := "(I)V" } : Jvm.MethodName) prog_18_method_4_code (2 : Nat) (Option.none : Option Jvm.ClassFile.FieldType), Jvm.Cond.code ({ cls := "com/example/depthwire/depthwire/InboundSeqNums", name := "expected", desc := "()I" } : Jvm.MethodName) prog_18_method_2_code (1 : Nat) (Option.some Jvm.ClassFile.FieldType.int)]
set_option maxRecDepth 65536 in
theorem codes_eq : words1.filter isCode = codes1 := rfl
theorem w_codes : ∀ c ∈ words1.filter isCode, c.before args0 about1 = true := by
  rw [codes_eq]
  intro c hc
  simp only [codes1, List.mem_cons, List.not_mem_nil, or_false] at hc
  rcases hc with rfl | rfl | rfl | rfl | rfl | rfl | rfl | rfl
  · exact w_c0
  · exact w_c1
  · exact w_c2
  · exact w_c3
  · exact w_c4
  · exact w_c5
  · exact w_c6
  · exact w_c7
set_option maxRecDepth 65536 in
theorem w_t1 : (words1.take 24).all (fun c => isCode c || c.before args0 about1) = true := by decide +kernel
set_option maxRecDepth 65536 in
theorem w_t2 : (words1.drop 24).all (fun c => isCode c || c.before args0 about1) = true := by decide +kernel
theorem w_tables : (allAtoms (Jvm.Cond.code x code maxLocals ret :: tables_1)).before args0 about1 = true := by
  rw [allAtoms_all]
  show words1.all (fun c => c.before args0 about1) = true
  refine all_split ?_ w_codes
  rw [← List.take_append_drop 24 words1, List.all_append, w_t1, w_t2]
  rfl
set_option maxRecDepth 65536 in
theorem w_case : (Jvm.Cond.and given_1 narrow_1).before args0 about1 = true := by decide +kernel
theorem w_applies : (headSpec (Jvm.Cond.code x code maxLocals ret :: tables_1) room_1).applies x e0.platform about1 = true :=
  (Spec.applies_iff w_frames).mpr ⟨w_running, w_runnable, w_alone, w_named, w_hears, w_ripe, w_room, w_tables⟩
theorem atStart : AtStart classFile x code maxLocals ret World_1 tables_1 room_1 Calls_1 rest_1 Pre_1 launch0 p0 e0 about1 theMethod args0 below0 :=
  ⟨lists_1, trivial, launch0.admits_env _ _ _, launch0.least_env, fairChoices_fair.cas, fairChoices_fair.clock, w_frames, w_args, w_heap, w_applies, trivial, trivial, w_case⟩
end start1
theorem witness_1 : WitnessClaimed_1 := ⟨start1.p0, start1.e0, start1.about1, start1.theMethod, start1.args0, start1.below0, start1.atStart⟩
end Jvm.Pilot.@@N@@
