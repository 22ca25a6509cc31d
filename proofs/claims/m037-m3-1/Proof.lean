import JvmDerived
import JvmDerived.Pilot.@@N@@Statement
import JvmDerived.Pilot.@@N@@Code
set_option linter.unusedVariables false
set_option linter.unusedSimpArgs false
namespace Jvm.RoadKit
open Sem ClassFile Op Lib Jvm.Stand Jvm.Free Jvm.LawKit
section New
variable {p : Program} {l : Launch} {e : Env} {R : Room} {s : State} {m : MethodId} {args : Array Value} {below : List Frame} {meth : Method} {c : Code} {T : State} {locs : List Loc} {cells slots : Nat}
theorem retI (X : Stand p l e R s m args below meth c T locs cells slots) (hx : p.tables.exec = Jvm.exec) {pc : Nat} {Ls : Array Slot} {z : Int32} {rest : List Value} (hret : meth.sig.returnType = some .int) (hd : decode c.code pc = .ok (.ireturn, 1)) {fs : List Frame}
    (hl : ∀ (f : JFrame) (acts : List Action), f.method = m → f.locked = none → f.entered = [] → (doReturn e (T.setTop f) acts (some (.int z))).1 = T.setFrames fs) : Steps p.tables e below (T.setTop (mkF m pc Ls (.int z :: rest))) (T.setFrames fs) := by
  have hm' : T.vm.method? m = some meth := X.method'
  have hn : narrow .int (.int z) = .int z := rfl
  show Steps p.tables e below (T.setTop { method := m, pc := pc, locals := Ls, stack := _ :: rest, locked := none }) _
  jvm_step X.here [X.here.top, hx, hd, hm', hret, hn]
  first | (intro acts; rw [hl _ acts rfl rfl rfl]) | rw [hl _ _ rfl rfl rfl]
  exact Steps.refl _
theorem own_retN (X : Stand p l e R s m args below meth c T locs cells slots) (hx : p.tables.exec = Jvm.exec) {pc : Nat} {Ls : Array Slot} {z z' : Int32} {t : FieldType} {rest : List Value} (hret : meth.sig.returnType = some t) (ht : t = .boolean ∨ t = .byte ∨ t = .char ∨ t = .short)
    (hd : decode c.code pc = .ok (.ireturn, 1)) (hz : nar t z = z') {fs : List Frame} (hl : ∀ (f : JFrame) (acts : List Action), f.method = m → f.locked = none → f.entered = [] → (doReturn e (T.setTop f) acts (some (.int z'))).1 = T.setFrames fs) :
    Steps p.tables e below (T.setTop (mkF m pc Ls (.int z :: rest))) (T.setFrames fs) := by
  subst hz; exact retN X hx hret ht hd hl
end New
theorem own_nar_if {P : Prop} [Decidable P] {a b : Int32} (ha : nar .boolean a = a) (hb : nar .boolean b = b) : nar .boolean (if P then a else b) = if P then a else b := by
  split
  · exact ha
  · exact hb
theorem own_b_lt (x y : Int32) : (if if_icmp.holds .lt x y = true then (0 : Int32) else 1) = if x < y then 0 else 1 := by
  by_cases h : x < y
  · rw [(tlt h).1]; simp [h]
  · rw [(flt h).1]; simp [h]
theorem own_b_ge (x y : Int32) : (if if_icmp.holds .ge x y = true then (0 : Int32) else 1) = if x < y then 1 else 0 := by
  by_cases h : x < y
  · rw [(tlt h).2.1]; simp [h]
  · rw [(flt h).2.1]; simp [h]
theorem own_b_gt (x y : Int32) : (if if_icmp.holds .gt x y = true then (0 : Int32) else 1) = if y < x then 0 else 1 := by
  by_cases h : y < x
  · rw [(tlt h).2.2.1]; simp [h]
  · rw [(flt h).2.2.1]; simp [h]
theorem own_b_le (x y : Int32) : (if if_icmp.holds .le x y = true then (0 : Int32) else 1) = if y < x then 1 else 0 := by
  by_cases h : y < x
  · rw [(tlt h).2.2.2]; simp [h]
  · rw [(flt h).2.2.2]; simp [h]
theorem own_b_eq (x y : Int32) : (if if_icmp.holds .eq x y = true then (0 : Int32) else 1) = if x = y then 0 else 1 := by
  by_cases h : x = y
  · rw [(teq h).1]; simp [h]
  · rw [(feq h).1]; simp [h]
theorem own_b_ne (x y : Int32) : (if if_icmp.holds .ne x y = true then (0 : Int32) else 1) = if x = y then 1 else 0 := by
  by_cases h : x = y
  · rw [(teq h).2]; simp [h]
  · rw [(feq h).2]; simp [h]
theorem own_boolC {tb : Tables} [Ours tb] {e : Env} {below : List Frame} {T target : State} {m : MethodId} {c : Code} {g : JFrame} (h : At T m c below) (hx : tb.exec = Jvm.exec) (hg : g.method = m) {cd : ClassFile.Cond} {x y z : Int32} {rest : List Value}
    (hd0 : decode c.code g.pc = .ok (.if_icmp cd 7, 3)) (hd1 : decode c.code (g.pc + 3) = .ok (.iconst 1, 1)) (hd2 : decode c.code (g.pc + 4) = .ok (.goto 4, 3)) (hd3 : decode c.code (g.pc + 7) = .ok (.iconst 0, 1)) (hs : g.stack = .int y :: .int x :: rest)
    (hz : (if if_icmp.holds cd x y = true then (0 : Int32) else 1) = z) (hr : Steps tb e below (T.setTop { g with pc := g.pc + 8, stack := .int z :: rest }) target) : Steps tb e below (T.setTop g) target := by
  by_cases hc : if_icmp.holds cd x y = true
  · rw [if_pos hc] at hz; subst hz
    exact XS.icmpYes h hx hg (pc0 := g.pc) (pc' := g.pc + 7) rfl hd0 hs hc (by omega) (by omega) (XS.iconst h hx hg hd3 hr)
  · rw [if_neg hc] at hz; subst hz
    exact XS.icmpNo h hx hg hd0 hs (by simpa using hc) (XS.iconst h hx hg hd1 (XS.goto h hx hg (pc0 := g.pc + 4) (pc' := g.pc + 8) rfl hd2 (by omega) (by omega) hr))
theorem own_boolI {tb : Tables} [Ours tb] {e : Env} {below : List Frame} {T target : State} {m : MethodId} {c : Code} {g : JFrame} (h : At T m c below) (hx : tb.exec = Jvm.exec) (hg : g.method = m) {cd : ClassFile.Cond} {x z : Int32} {rest : List Value}
    (hd0 : decode c.code g.pc = .ok (.ifCond cd 7, 3)) (hd1 : decode c.code (g.pc + 3) = .ok (.iconst 1, 1)) (hd2 : decode c.code (g.pc + 4) = .ok (.goto 4, 3)) (hd3 : decode c.code (g.pc + 7) = .ok (.iconst 0, 1)) (hs : g.stack = .int x :: rest)
    (hz : (if if_icmp.holds cd x 0 = true then (0 : Int32) else 1) = z) (hr : Steps tb e below (T.setTop { g with pc := g.pc + 8, stack := .int z :: rest }) target) : Steps tb e below (T.setTop g) target := by
  by_cases hc : if_icmp.holds cd x 0 = true
  · rw [if_pos hc] at hz; subst hz
    exact XS.ifYes h hx hg (pc0 := g.pc) (pc' := g.pc + 7) rfl hd0 hs ((if0 _ _).trans hc) (by omega) (by omega) (XS.iconst h hx hg hd3 hr)
  · rw [if_neg hc] at hz; subst hz
    exact XS.ifNo h hx hg hd0 hs ((if0 _ _).trans (by simpa using hc)) (XS.iconst h hx hg hd1 (XS.goto h hx hg (pc0 := g.pc + 4) (pc' := g.pc + 8) rfl hd2 (by omega) (by omega) hr))
theorem own_selects_private {y : MethodName} {s : State} {args : Array Value} {n : Nat} (hins : (Cond.instantiable y.cls n).before args s = true) (hpriv : (Cond.privateMethod y).before args s = true) (hinst : (Cond.instanceMethod y).before args s = true) (hy : y.cls ≠ "java/lang/invoke/MethodHandle" ∧ y.cls ≠ "java/lang/invoke/VarHandle" := by decide) :
    (Cond.selects y.cls y y).before args s = true := by
  obtain ⟨c, k, hc, hk, -, hniab, -, -⟩ := Cond.instantiable_spec hins
  have hni : k.isInterface = false := (Bool.or_eq_false_iff.mp hniab).1
  obtain ⟨mk, methM, hnamed, hmethM, -, -⟩ := Cond.instanceMethod_spec hinst
  have hfound : s.methodFound? y.cls y.name y.desc = some mk := State.methodFound?_of_named hnamed hy
  have hcls : mk.cls = c := Option.some.inj ((findClass_of_methodNamed hnamed).symm.trans hc)
  have hsel : selectMethod {} s.vm c mk = .method mk := selectMethod_private hmethM (Cond.privateMethod_at hpriv mk methM hnamed hmethM)
  simp only [Cond.before, Cond.holds, Cond.value, hc, hfound, hnamed, hsel, hcls, hk]
  simp; exact hni
theorem own_sta_keep {Z : State} {h h' : Heap} {C n d : String} {v : Value} {ws : List Addr} (F : Sta Z h C n d v) (K : Keep h h' ws) (q : ∀ x ∈ ws, ∀ cell : Cell, h[x]? = some cell → cell.vm.isStatics = false) : Sta Z h' C n d v := by
  obtain ⟨cf, i, k, f, st, cell, h1, h2, h3, h4, h5, h6, h7⟩ := F
  refine ⟨cf, i, k, f, st, cell, h1, h2, h3, h4, K.2.1 _ _ h5 (fun hm => ?_), h6, h7⟩
  rw [q _ hm _ h5] at h6; cases h6
theorem own_plain_exa {Z : State} {h : Heap} {a : Addr} {C : String} (F : Exa Z h a C) : ∀ cell : Cell, h[a]? = some cell → cell.vm.isStatics = false := fun cell hc => by
  obtain ⟨c, k, h1, -, -, h4, -⟩ := F
  cases h1.symm.trans hc; exact h4
end Jvm.RoadKit
namespace Jvm.Pilot.@@N@@
open Jvm Jvm.ClassFile Sem Op Lib Jvm.Free Jvm.Stand Jvm.LawKit Jvm.RoadKit Bundle Jvm.Pilot.@@N@@.Jvm.D
theorem own_r0 (a b : Int32) : ((a + (8 : Int32)) + ((0 : Int32) * (b + (8 : Int32)))) = a + 8 := by rw [Int32.zero_mul, Int32.add_zero]
theorem own_rn (s a b : Int32) : (((a + (8 : Int32)) + ((s + (1 : Int32)) * (b + (8 : Int32)))) - ((a + (8 : Int32)) + (s * (b + (8 : Int32))))) = b + 8 := by grind
theorem own_rg (s a b : Int32) : (((a + (8 : Int32)) + ((s + (1 : Int32)) * (b + (8 : Int32)))) - (((a + (8 : Int32)) + (s * (b + (8 : Int32)))) + b)) = 8 := by grind
theorem own_rs (s a b d : Int32) : ((((a + d) + (8 : Int32)) + (s * (b + (8 : Int32)))) - ((a + (8 : Int32)) + (s * (b + (8 : Int32))))) = d := by grind
theorem d2_0 : decode prog_45_method_4_code 0 = .ok (.iload_n 0, 1) := by decide +kernel
theorem d2_1 : decode prog_45_method_4_code 1 = .ok (.bipush 8, 2) := by decide +kernel
theorem d2_3 : decode prog_45_method_4_code 3 = .ok (.iadd, 1) := by decide +kernel
theorem d2_4 : decode prog_45_method_4_code 4 = .ok (.ireturn, 1) := by decide +kernel
theorem ef_rm2 (m : MethodId) (x0 : Int32) : entryFrame m #[(.int x0)] 1 = mkF m 0 #[.val (.int x0)] [] := by first | (simp [entryFrame, mkF, argsToLocals, Value.category]; done) | rfl
theorem pn_0 : plainName "com/example/libthrottle/libthrottle/stat/Cells" = true := by first | (simp [plainName, overriddenIn]; done) | decide +kernel
def Q2 (Z : State) (p0 : Int32) (h0 : Heap) (n0 : Nat) (v : Option Value) (h : Heap) (L : List Loc) : Prop := v = some (.int (p0 + (8 : Int32))) ∧ Fr n0 L ∧ h = h0
set_option maxRecDepth 65536 in
set_option maxHeartbeats 40000000 in
theorem rm2 (l : Launch) (Z : State) (a0 : Array Value) (hw : ∀ d ∈ tables_1, d.before a0 Z = true) (ws : List Jvm.Cond) (p0 : Int32) (h0 : Heap) (n0 : Nat) (Z0 : n0 ≤ h0.size)  :
    MetFree l (⟨"com/example/libthrottle/libthrottle/stat/Cells", "rowLength", "(I)I"⟩ : MethodName) (head1 (Jvm.Cond.code (⟨"com/example/libthrottle/libthrottle/stat/Cells", "rowLength", "(I)I"⟩ : MethodName) prog_45_method_4_code 1 (some .int) :: ws) ({ frames := 0, cells := 0, slots := 0, locals := 0 } : Room)) (fun a U => a = #[(.int p0)] ∧ Z.Warmed39 U.vm ∧ U.heap = h0) (fun _ _ _ _ _ => True) (fun _ U o U' => ∃ v L, o = .returned v ∧ Q2 Z p0 h0 n0 v U'.heap L ∧ FrameEnd U o U' L ({ frames := 0, cells := 0, slots := 0, locals := 0 } : Room).cells ({ frames := 0, cells := 0, slots := 0, locals := 0 } : Room).slots) := by
  refine MetFree.of_bodySF (plainFor_of_name pn_0) hisR ?_
  intro p e s0 m args below meth c s₁ Bd hml0 hP hK
  obtain ⟨rfl, hZ, hh⟩ := hP
  have hx := Bd.exec
  have hby := Bd.bytes
  have hml : c.maxLocals = 1 := hml0
  have hown : s0.vm.findClass "com/example/libthrottle/libthrottle/stat/Cells" = some m.cls := findClass_of_methodNamed Bd.named
  have hnm := (name_of_methodNamed Bd.named Bd.method).1
  have X0 : Stand p l e ({ frames := 0, cells := 0, slots := 0, locals := 0 } : Room) s0 m #[(.int p0)] below meth c s₁ [] 0 0 := Stand.of_body Bd
  have e0 : s₁.heap = h0 := by rw [← hh, Bd.state]; rfl
  have N0 := Fr.nil n0
  have pre0 : ∀ t, Steps p.tables e below (s₁.setTop (mkF m 0 #[.val (.int p0)] [])) t → Steps p.tables e below (s₁.setTop (entryFrame m #[(.int p0)] 1)) t := fun t k => castTop (ef_rm2 m p0) k
  have pre1 : ∀ t, Steps p.tables e below (s₁.setTop (mkF m 4 #[.val (.int p0)] [(.int (p0 + (8 : Int32)))])) t → Steps p.tables e below (s₁.setTop (entryFrame m #[(.int p0)] 1)) t := fun t k => by
    refine pre0 t ?_
    show Steps p.tables e below (s₁.setTop (mkF m 0 #[.val (.int p0)] [])) _
    refine XS.iloadN X0.here hx rfl (hb hby d2_0) rfl ?_
    show Steps p.tables e below (s₁.setTop (mkF m 1 #[.val (.int p0)] [(.int p0)])) _
    refine XS.bipush X0.here hx rfl (hb hby d2_1) ?_
    show Steps p.tables e below (s₁.setTop (mkF m 3 #[.val (.int p0)] [(.int (8 : Int32)), (.int p0)])) _
    refine XS.iadd X0.here hx rfl (hb hby d2_3) rfl ?_
    exact k
  obtain ⟨fs, hrq, hrun, hended, hW, hsame⟩ := X0.leave (v := some (.int (p0 + (8 : Int32)))) (fun h => by rw [Bd.returns] at h; cases h)
  refine ⟨_, _, pre1 _ ?_, hrun, hended, _, _, rfl, ?_, ⟨_, rfl⟩, hW, hsame.mono (by decide) (by decide)⟩
  · show Steps p.tables e below (s₁.setTop (mkF m 4 #[.val (.int p0)] [(.int (p0 + (8 : Int32)))])) _
    exact retI X0 hx Bd.returns (hb hby d2_4) hrq
  · show Q2 Z p0 h0 n0 _ s₁.heap _
    rw [e0]
    exact ⟨rfl, N0, rfl⟩
theorem pd_0 : parseMethodDescriptor "(I)I" = some ⟨[.int], some .int⟩ := by decide +kernel
theorem d1_0 : decode prog_45_method_3_code 0 = .ok (.iload_n 1, 1) := by decide +kernel
theorem d1_1 : decode prog_45_method_3_code 1 = .ok (.bipush 8, 2) := by decide +kernel
theorem d1_3 : decode prog_45_method_3_code 3 = .ok (.iadd, 1) := by decide +kernel
theorem d1_4 : decode prog_45_method_3_code 4 = .ok (.iload_n 0, 1) := by decide +kernel
theorem d1_5 : decode prog_45_method_3_code 5 = .ok (.iload_n 2, 1) := by decide +kernel
theorem d1_6 : decode prog_45_method_3_code 6 = .ok (.invokestatic 15, 3) := by decide +kernel
theorem d1_9 : decode prog_45_method_3_code 9 = .ok (.imul, 1) := by decide +kernel
theorem d1_10 : decode prog_45_method_3_code 10 = .ok (.iadd, 1) := by decide +kernel
theorem d1_11 : decode prog_45_method_3_code 11 = .ok (.ireturn, 1) := by decide +kernel
theorem ef_rm1 (m : MethodId) (x0 : Int32) (x1 : Int32) (x2 : Int32) : entryFrame m #[(.int x0), (.int x1), (.int x2)] 3 = mkF m 0 #[.val (.int x0), .val (.int x1), .val (.int x2)] [] := by first | (simp [entryFrame, mkF, argsToLocals, Value.category]; done) | rfl
def Q1 (Z : State) (p0 : Int32) (p1 : Int32) (p2 : Int32) (h0 : Heap) (n0 : Nat) (v : Option Value) (h : Heap) (L : List Loc) : Prop := v = some (.int ((p1 + (8 : Int32)) + (p0 * (p2 + (8 : Int32))))) ∧ Fr n0 L ∧ h = h0
set_option maxRecDepth 65536 in
set_option maxHeartbeats 40000000 in
theorem rm1 (l : Launch) (Z : State) (a0 : Array Value) (hw : ∀ d ∈ tables_1, d.before a0 Z = true) (ws : List Jvm.Cond) (p0 : Int32) (p1 : Int32) (p2 : Int32) (h0 : Heap) (n0 : Nat) (Z0 : n0 ≤ h0.size)  :
    MetFree l (⟨"com/example/libthrottle/libthrottle/stat/Cells", "rowOf", "(III)I"⟩ : MethodName) (head1 (Jvm.Cond.code (⟨"com/example/libthrottle/libthrottle/stat/Cells", "rowOf", "(III)I"⟩ : MethodName) prog_45_method_3_code 3 (some .int) :: ws) ({ frames := 1, cells := 0, slots := 0, locals := 14 } : Room)) (fun a U => a = #[(.int p0), (.int p1), (.int p2)] ∧ Z.Warmed39 U.vm ∧ U.heap = h0) (fun _ _ _ _ _ => True) (fun _ U o U' => ∃ v L, o = .returned v ∧ Q1 Z p0 p1 p2 h0 n0 v U'.heap L ∧ FrameEnd U o U' L ({ frames := 1, cells := 0, slots := 0, locals := 14 } : Room).cells ({ frames := 1, cells := 0, slots := 0, locals := 14 } : Room).slots) := by
  refine MetFree.of_bodySF (plainFor_of_name pn_0) hisR ?_
  intro p e s0 m args below meth c s₁ Bd hml0 hP hK
  obtain ⟨rfl, hZ, hh⟩ := hP
  have hx := Bd.exec
  have hby := Bd.bytes
  have hml : c.maxLocals = 3 := hml0
  have hown : s0.vm.findClass "com/example/libthrottle/libthrottle/stat/Cells" = some m.cls := findClass_of_methodNamed Bd.named
  have hnm := (name_of_methodNamed Bd.named Bd.method).1
  have X0 : Stand p l e ({ frames := 1, cells := 0, slots := 0, locals := 14 } : Room) s0 m #[(.int p0), (.int p1), (.int p2)] below meth c s₁ [] 0 0 := Stand.of_body Bd
  have e0 : s₁.heap = h0 := by rw [← hh, Bd.state]; rfl
  have N0 := Fr.nil n0
  have pre0 : ∀ t, Steps p.tables e below (s₁.setTop (mkF m 0 #[.val (.int p0), .val (.int p1), .val (.int p2)] [])) t → Steps p.tables e below (s₁.setTop (entryFrame m #[(.int p0), (.int p1), (.int p2)] 3)) t := fun t k => castTop (ef_rm1 m p0 p1 p2) k
  obtain ⟨_, _, ⟨T1, L1, k1, n1⟩, -, X1, ⟨Lc1, hQ1, l1, y1, z1⟩, st1⟩ := Jvm.LawKit.callS X0 hx (y := (⟨"com/example/libthrottle/libthrottle/stat/Cells", "rowLength", "(I)I"⟩ : MethodName)) hown (mvT hZ (hw _ (List.mem_of_getElem? (i := 4) rfl))) (mvT hZ (hw _ (List.mem_of_getElem? (i := 5) rfl))) (mvT hZ (hw _ (List.mem_of_getElem? (i := 2) rfl))) (mvT hZ (hw _ (List.mem_of_getElem? (i := 6) rfl))) (by decide) (backOf (W := 2) (rm2 l Z a0 hw [] p2 h0 n0 Z0 ) hZ (hw _ (List.mem_of_getElem? (i := 6) rfl)) (hw _ (List.mem_of_getElem? (i := 2) rfl)) (by decide) (by decide)) (g := (mkF m 6 #[.val (.int p0), .val (.int p1), .val (.int p2)] [(.int p2), (.int p0), (.int (p1 + (8 : Int32)))])) rfl (by rw [hml]; rfl) (argsL := [(.int p2)]) (rest := [(.int p0), (.int (p1 + (8 : Int32)))]) (lenOf pd_0 rfl) rfl (by show 2 * 0 + _ ≤ _; exact Nat.le_of_eq rfl) (hb hby d1_6) (fun _ _ => ⟨rfl, e0, (by decide : 0 + 0 ≤ _), (by decide : 0 + 0 ≤ _)⟩)
  dsimp only [Pt.U, Pt.locs, Pt.cells, Pt.slots] at X1 l1 y1 z1 st1 hQ1
  subst l1 y1 z1
  obtain ⟨rfl, Nq1, hh1⟩ := hQ1
  have N1 := Fr.app N0 Nq1
  have e1 : T1.heap = h0 := hh1
  have pre2 : ∀ t, Steps p.tables e below (T1.setTop (mkF m 11 #[.val (.int p0), .val (.int p1), .val (.int p2)] [(.int ((p1 + (8 : Int32)) + (p0 * (p2 + (8 : Int32)))))])) t → Steps p.tables e below (s₁.setTop (entryFrame m #[(.int p0), (.int p1), (.int p2)] 3)) t := fun t k => by
    refine pre0 t ?_
    show Steps p.tables e below (s₁.setTop (mkF m 0 #[.val (.int p0), .val (.int p1), .val (.int p2)] [])) _
    refine XS.iloadN X0.here hx rfl (hb hby d1_0) rfl ?_
    show Steps p.tables e below (s₁.setTop (mkF m 1 #[.val (.int p0), .val (.int p1), .val (.int p2)] [(.int p1)])) _
    refine XS.bipush X0.here hx rfl (hb hby d1_1) ?_
    show Steps p.tables e below (s₁.setTop (mkF m 3 #[.val (.int p0), .val (.int p1), .val (.int p2)] [(.int (8 : Int32)), (.int p1)])) _
    refine XS.iadd X0.here hx rfl (hb hby d1_3) rfl ?_
    show Steps p.tables e below (s₁.setTop (mkF m 4 #[.val (.int p0), .val (.int p1), .val (.int p2)] [(.int (p1 + (8 : Int32)))])) _
    refine XS.iloadN X0.here hx rfl (hb hby d1_4) rfl ?_
    show Steps p.tables e below (s₁.setTop (mkF m 5 #[.val (.int p0), .val (.int p1), .val (.int p2)] [(.int p0), (.int (p1 + (8 : Int32)))])) _
    refine XS.iloadN X0.here hx rfl (hb hby d1_5) rfl ?_
    show Steps p.tables e below (s₁.setTop (mkF m 6 #[.val (.int p0), .val (.int p1), .val (.int p2)] [(.int p2), (.int p0), (.int (p1 + (8 : Int32)))])) _
    refine st1 _ ?_
    show Steps p.tables e below (T1.setTop (mkF m 9 #[.val (.int p0), .val (.int p1), .val (.int p2)] [(.int (p2 + (8 : Int32))), (.int p0), (.int (p1 + (8 : Int32)))])) _
    refine XS.imul X1.here hx rfl (hb hby d1_9) rfl ?_
    show Steps p.tables e below (T1.setTop (mkF m 10 #[.val (.int p0), .val (.int p1), .val (.int p2)] [(.int (p0 * (p2 + (8 : Int32)))), (.int (p1 + (8 : Int32)))])) _
    refine XS.iadd X1.here hx rfl (hb hby d1_10) rfl ?_
    exact k
  obtain ⟨fs, hrq, hrun, hended, hW, hsame⟩ := X1.leave (v := some (.int ((p1 + (8 : Int32)) + (p0 * (p2 + (8 : Int32)))))) (fun h => by rw [Bd.returns] at h; cases h)
  refine ⟨_, _, pre2 _ ?_, hrun, hended, _, _, rfl, ?_, ⟨_, rfl⟩, hW, hsame.mono (by decide) (by decide)⟩
  · show Steps p.tables e below (T1.setTop (mkF m 11 #[.val (.int p0), .val (.int p1), .val (.int p2)] [(.int ((p1 + (8 : Int32)) + (p0 * (p2 + (8 : Int32)))))])) _
    exact retI X1 hx Bd.returns (hb hby d1_11) hrq
  · show Q1 Z p0 p1 p2 h0 n0 _ T1.heap _
    rw [e1]
    exact ⟨rfl, N1, rfl⟩
theorem pd_1 : parseMethodDescriptor "(III)I" = some ⟨[.int, .int, .int], some .int⟩ := by decide +kernel
theorem ef_rm0 (m : MethodId) (x0 : Int32) (x1 : Int32) (x2 : Int32) (x3 : Int32) : entryFrame m #[(.int x0), (.int x1), (.int x2), (.int x3)] maxLocals = mkF m 0 #[.val (.int x0), .val (.int x1), .val (.int x2), .val (.int x3), .unset, .unset, .unset, .unset, .unset, .unset, .unset, .unset, .unset, .unset] [] := by first | (simp [entryFrame, mkF, argsToLocals, Value.category, maxLocals]; done) | rfl
theorem pn_1 : plainName "com/example/libthrottle/libthrottle/stat/CellsRowOfPinLaw" = true := by first | (simp [plainName, overriddenIn]; done) | decide +kernel
def Q0 (Z : State) (p0 : Int32) (p1 : Int32) (p2 : Int32) (p3 : Int32) (h0 : Heap) (n0 : Nat) (v : Option Value) (h : Heap) (L : List Loc) : Prop := v = some (.int 1) ∧ Fr n0 L
set_option maxRecDepth 65536 in
set_option maxHeartbeats 40000000 in
theorem rm0 (l : Launch) (Z : State) (a0 : Array Value) (hw : ∀ d ∈ tables_1, d.before a0 Z = true) (ws : List Jvm.Cond) (p0 : Int32) (p1 : Int32) (p2 : Int32) (p3 : Int32) (h0 : Heap) (n0 : Nat) (Z0 : n0 ≤ h0.size)  :
    MetFree l x (head1 (Jvm.Cond.code x code maxLocals ret :: ws) room_1) (fun a U => a = #[(.int p0), (.int p1), (.int p2), (.int p3)] ∧ Z.Warmed39 U.vm ∧ U.heap = h0) (fun _ _ _ _ _ => True) (fun _ U o U' => ∃ v L, o = .returned v ∧ Q0 Z p0 p1 p2 p3 h0 n0 v U'.heap L ∧ FrameEnd U o U' L room_1.cells room_1.slots) := by
  refine MetFree.of_bodySF (plainFor_of_name pn_1) hisR ?_
  intro p e s0 m args below meth c s₁ Bd hml0 hP hK
  obtain ⟨rfl, hZ, hh⟩ := hP
  have hx := Bd.exec
  have hby := Bd.bytes
  have hml : c.maxLocals = 14 := hml0
  have hown : s0.vm.findClass "com/example/libthrottle/libthrottle/stat/CellsRowOfPinLaw" = some m.cls := findClass_of_methodNamed Bd.named
  have hnm := (name_of_methodNamed Bd.named Bd.method).1
  have X0 : Stand p l e room_1 s0 m #[(.int p0), (.int p1), (.int p2), (.int p3)] below meth c s₁ [] 0 0 := Stand.of_body Bd
  have e0 : s₁.heap = h0 := by rw [← hh, Bd.state]; rfl
  have N0 := Fr.nil n0
  have pre0 : ∀ t, Steps p.tables e below (s₁.setTop (mkF m 0 #[.val (.int p0), .val (.int p1), .val (.int p2), .val (.int p3), .unset, .unset, .unset, .unset, .unset, .unset, .unset, .unset, .unset, .unset] [])) t → Steps p.tables e below (s₁.setTop (entryFrame m #[(.int p0), (.int p1), (.int p2), (.int p3)] maxLocals)) t := fun t k => castTop (ef_rm0 m p0 p1 p2 p3) k
  obtain ⟨_, _, ⟨T1, L1, k1, n1⟩, -, X1, ⟨Lc1, hQ1, l1, y1, z1⟩, st1⟩ := Jvm.LawKit.callS X0 hx (y := (⟨"com/example/libthrottle/libthrottle/stat/Cells", "rowOf", "(III)I"⟩ : MethodName)) hown (mvT hZ (hw _ (List.mem_of_getElem? (i := 0) rfl))) (mvT hZ (hw _ (List.mem_of_getElem? (i := 1) rfl))) (mvT hZ (hw _ (List.mem_of_getElem? (i := 2) rfl))) (mvT hZ (hw _ (List.mem_of_getElem? (i := 3) rfl))) (by decide) (backOf (W := 0) (rm1 l Z a0 hw [] (0 : Int32) p1 p2 h0 n0 Z0 ) hZ (hw _ (List.mem_of_getElem? (i := 3) rfl)) (hw _ (List.mem_of_getElem? (i := 2) rfl)) (by decide) (by decide)) (g := (mkF m 3 #[.val (.int p0), .val (.int p1), .val (.int p2), .val (.int p3), .unset, .unset, .unset, .unset, .unset, .unset, .unset, .unset, .unset, .unset] [(.int p2), (.int p1), (.int (0 : Int32))])) rfl (by rw [hml]; rfl) (argsL := [(.int (0 : Int32)), (.int p1), (.int p2)]) (rest := []) (lenOf pd_1 rfl) rfl (by show 2 * 0 + _ ≤ _; exact Nat.le_of_eq rfl) (hb hby at_3) (fun _ _ => ⟨rfl, e0, (by decide : 0 + 0 ≤ _), (by decide : 0 + 0 ≤ _)⟩)
  dsimp only [Pt.U, Pt.locs, Pt.cells, Pt.slots] at X1 l1 y1 z1 st1 hQ1
  subst l1 y1 z1
  obtain ⟨rfl, Nq1, hh1⟩ := hQ1
  have N1 := Fr.app N0 Nq1
  have e1 : T1.heap = h0 := hh1
  obtain ⟨_, _, ⟨T2, L2, k2, n2⟩, -, X2, ⟨Lc2, hQ2, l2, y2, z2⟩, st2⟩ := Jvm.LawKit.callS X1 hx (y := (⟨"com/example/libthrottle/libthrottle/stat/Cells", "rowOf", "(III)I"⟩ : MethodName)) hown (mvT hZ (hw _ (List.mem_of_getElem? (i := 0) rfl))) (mvT hZ (hw _ (List.mem_of_getElem? (i := 1) rfl))) (mvT hZ (hw _ (List.mem_of_getElem? (i := 2) rfl))) (mvT hZ (hw _ (List.mem_of_getElem? (i := 3) rfl))) (by decide) (backOf (W := 0) (rm1 l Z a0 hw [] p0 p1 p2 h0 n0 Z0 ) hZ (hw _ (List.mem_of_getElem? (i := 3) rfl)) (hw _ (List.mem_of_getElem? (i := 2) rfl)) (by decide) (by decide)) (g := (mkF m 11 #[.val (.int p0), .val (.int p1), .val (.int p2), .val (.int p3), .val (.int ((p1 + (8 : Int32)) + ((0 : Int32) * (p2 + (8 : Int32))))), .unset, .unset, .unset, .unset, .unset, .unset, .unset, .unset, .unset] [(.int p2), (.int p1), (.int p0)])) rfl (by rw [hml]; rfl) (argsL := [(.int p0), (.int p1), (.int p2)]) (rest := []) (lenOf pd_1 rfl) rfl (by show 2 * 0 + _ ≤ _; exact Nat.le_of_eq rfl) (hb hby at_11) (fun _ _ => ⟨rfl, e1, (by decide : 0 + 0 ≤ _), (by decide : 0 + 0 ≤ _)⟩)
  dsimp only [Pt.U, Pt.locs, Pt.cells, Pt.slots] at X2 l2 y2 z2 st2 hQ2
  subst l2 y2 z2
  obtain ⟨rfl, Nq2, hh2⟩ := hQ2
  have N2 := Fr.app N1 Nq2
  have e2 : T2.heap = h0 := hh2
  obtain ⟨_, _, ⟨T3, L3, k3, n3⟩, -, X3, ⟨Lc3, hQ3, l3, y3, z3⟩, st3⟩ := Jvm.LawKit.callS X2 hx (y := (⟨"com/example/libthrottle/libthrottle/stat/Cells", "rowOf", "(III)I"⟩ : MethodName)) hown (mvT hZ (hw _ (List.mem_of_getElem? (i := 0) rfl))) (mvT hZ (hw _ (List.mem_of_getElem? (i := 1) rfl))) (mvT hZ (hw _ (List.mem_of_getElem? (i := 2) rfl))) (mvT hZ (hw _ (List.mem_of_getElem? (i := 3) rfl))) (by decide) (backOf (W := 0) (rm1 l Z a0 hw [] (p0 + (1 : Int32)) p1 p2 h0 n0 Z0 ) hZ (hw _ (List.mem_of_getElem? (i := 3) rfl)) (hw _ (List.mem_of_getElem? (i := 2) rfl)) (by decide) (by decide)) (g := (mkF m 21 #[.val (.int p0), .val (.int p1), .val (.int p2), .val (.int p3), .val (.int ((p1 + (8 : Int32)) + ((0 : Int32) * (p2 + (8 : Int32))))), .val (.int ((p1 + (8 : Int32)) + (p0 * (p2 + (8 : Int32))))), .unset, .unset, .unset, .unset, .unset, .unset, .unset, .unset] [(.int p2), (.int p1), (.int (p0 + (1 : Int32)))])) rfl (by rw [hml]; rfl) (argsL := [(.int (p0 + (1 : Int32))), (.int p1), (.int p2)]) (rest := []) (lenOf pd_1 rfl) rfl (by show 2 * 0 + _ ≤ _; exact Nat.le_of_eq rfl) (hb hby at_21) (fun _ _ => ⟨rfl, e2, (by decide : 0 + 0 ≤ _), (by decide : 0 + 0 ≤ _)⟩)
  dsimp only [Pt.U, Pt.locs, Pt.cells, Pt.slots] at X3 l3 y3 z3 st3 hQ3
  subst l3 y3 z3
  obtain ⟨rfl, Nq3, hh3⟩ := hQ3
  have N3 := Fr.app N2 Nq3
  have e3 : T3.heap = h0 := hh3
  obtain ⟨_, _, ⟨T4, L4, k4, n4⟩, -, X4, ⟨Lc4, hQ4, l4, y4, z4⟩, st4⟩ := Jvm.LawKit.callS X3 hx (y := (⟨"com/example/libthrottle/libthrottle/stat/Cells", "rowOf", "(III)I"⟩ : MethodName)) hown (mvT hZ (hw _ (List.mem_of_getElem? (i := 0) rfl))) (mvT hZ (hw _ (List.mem_of_getElem? (i := 1) rfl))) (mvT hZ (hw _ (List.mem_of_getElem? (i := 2) rfl))) (mvT hZ (hw _ (List.mem_of_getElem? (i := 3) rfl))) (by decide) (backOf (W := 0) (rm1 l Z a0 hw [] p0 (p1 + p3) p2 h0 n0 Z0 ) hZ (hw _ (List.mem_of_getElem? (i := 3) rfl)) (hw _ (List.mem_of_getElem? (i := 2) rfl)) (by decide) (by decide)) (g := (mkF m 31 #[.val (.int p0), .val (.int p1), .val (.int p2), .val (.int p3), .val (.int ((p1 + (8 : Int32)) + ((0 : Int32) * (p2 + (8 : Int32))))), .val (.int ((p1 + (8 : Int32)) + (p0 * (p2 + (8 : Int32))))), .val (.int ((p1 + (8 : Int32)) + ((p0 + (1 : Int32)) * (p2 + (8 : Int32))))), .unset, .unset, .unset, .unset, .unset, .unset, .unset] [(.int p2), (.int (p1 + p3)), (.int p0)])) rfl (by rw [hml]; rfl) (argsL := [(.int p0), (.int (p1 + p3)), (.int p2)]) (rest := []) (lenOf pd_1 rfl) rfl (by show 2 * 0 + _ ≤ _; exact Nat.le_of_eq rfl) (hb hby at_31) (fun _ _ => ⟨rfl, e3, (by decide : 0 + 0 ≤ _), (by decide : 0 + 0 ≤ _)⟩)
  dsimp only [Pt.U, Pt.locs, Pt.cells, Pt.slots] at X4 l4 y4 z4 st4 hQ4
  subst l4 y4 z4
  obtain ⟨rfl, Nq4, hh4⟩ := hQ4
  have N4 := Fr.app N3 Nq4
  have e4 : T4.heap = h0 := hh4
  obtain ⟨_, _, ⟨T5, L5, k5, n5⟩, -, X5, ⟨Lc5, hQ5, l5, y5, z5⟩, st5⟩ := Jvm.LawKit.callS X4 hx (y := (⟨"com/example/libthrottle/libthrottle/stat/Cells", "rowLength", "(I)I"⟩ : MethodName)) hown (mvT hZ (hw _ (List.mem_of_getElem? (i := 7) rfl))) (mvT hZ (hw _ (List.mem_of_getElem? (i := 5) rfl))) (mvT hZ (hw _ (List.mem_of_getElem? (i := 2) rfl))) (mvT hZ (hw _ (List.mem_of_getElem? (i := 6) rfl))) (by decide) (backOf (W := 0) (rm2 l Z a0 hw [] p2 h0 n0 Z0 ) hZ (hw _ (List.mem_of_getElem? (i := 6) rfl)) (hw _ (List.mem_of_getElem? (i := 2) rfl)) (by decide) (by decide)) (g := (mkF m 37 #[.val (.int p0), .val (.int p1), .val (.int p2), .val (.int p3), .val (.int ((p1 + (8 : Int32)) + ((0 : Int32) * (p2 + (8 : Int32))))), .val (.int ((p1 + (8 : Int32)) + (p0 * (p2 + (8 : Int32))))), .val (.int ((p1 + (8 : Int32)) + ((p0 + (1 : Int32)) * (p2 + (8 : Int32))))), .val (.int (((p1 + p3) + (8 : Int32)) + (p0 * (p2 + (8 : Int32))))), .unset, .unset, .unset, .unset, .unset, .unset] [(.int p2)])) rfl (by rw [hml]; rfl) (argsL := [(.int p2)]) (rest := []) (lenOf pd_0 rfl) rfl (by show 2 * 0 + _ ≤ _; exact Nat.le_of_eq rfl) (hb hby at_37) (fun _ _ => ⟨rfl, e4, (by decide : 0 + 0 ≤ _), (by decide : 0 + 0 ≤ _)⟩)
  dsimp only [Pt.U, Pt.locs, Pt.cells, Pt.slots] at X5 l5 y5 z5 st5 hQ5
  subst l5 y5 z5
  obtain ⟨rfl, Nq5, hh5⟩ := hQ5
  have N5 := Fr.app N4 Nq5
  have e5 : T5.heap = h0 := hh5
  have pre6 : ∀ t, Steps p.tables e below (T5.setTop (mkF m 156 #[.val (.int p0), .val (.int p1), .val (.int p2), .val (.int p3), .val (.int ((p1 + (8 : Int32)) + ((0 : Int32) * (p2 + (8 : Int32))))), .val (.int ((p1 + (8 : Int32)) + (p0 * (p2 + (8 : Int32))))), .val (.int ((p1 + (8 : Int32)) + ((p0 + (1 : Int32)) * (p2 + (8 : Int32))))), .val (.int (((p1 + p3) + (8 : Int32)) + (p0 * (p2 + (8 : Int32))))), .val (.int (p2 + (8 : Int32))), .val (.int (1 : Int32)), .val (.int (1 : Int32)), .val (.int (1 : Int32)), .val (.int (1 : Int32)), .val (.int (1 : Int32))] [(.int (1 : Int32))])) t → Steps p.tables e below (s₁.setTop (entryFrame m #[(.int p0), (.int p1), (.int p2), (.int p3)] maxLocals)) t := fun t k => by
    refine pre0 t ?_
    show Steps p.tables e below (s₁.setTop (mkF m 0 #[.val (.int p0), .val (.int p1), .val (.int p2), .val (.int p3), .unset, .unset, .unset, .unset, .unset, .unset, .unset, .unset, .unset, .unset] [])) _
    refine XS.iconst X0.here hx rfl (hb hby at_0) ?_
    show Steps p.tables e below (s₁.setTop (mkF m 1 #[.val (.int p0), .val (.int p1), .val (.int p2), .val (.int p3), .unset, .unset, .unset, .unset, .unset, .unset, .unset, .unset, .unset, .unset] [(.int (0 : Int32))])) _
    refine XS.iloadN X0.here hx rfl (hb hby at_1) rfl ?_
    show Steps p.tables e below (s₁.setTop (mkF m 2 #[.val (.int p0), .val (.int p1), .val (.int p2), .val (.int p3), .unset, .unset, .unset, .unset, .unset, .unset, .unset, .unset, .unset, .unset] [(.int p1), (.int (0 : Int32))])) _
    refine XS.iloadN X0.here hx rfl (hb hby at_2) rfl ?_
    show Steps p.tables e below (s₁.setTop (mkF m 3 #[.val (.int p0), .val (.int p1), .val (.int p2), .val (.int p3), .unset, .unset, .unset, .unset, .unset, .unset, .unset, .unset, .unset, .unset] [(.int p2), (.int p1), (.int (0 : Int32))])) _
    refine st1 _ ?_
    show Steps p.tables e below (T1.setTop (mkF m 6 #[.val (.int p0), .val (.int p1), .val (.int p2), .val (.int p3), .unset, .unset, .unset, .unset, .unset, .unset, .unset, .unset, .unset, .unset] [(.int ((p1 + (8 : Int32)) + ((0 : Int32) * (p2 + (8 : Int32)))))])) _
    refine XS.istore X1.here hx rfl (hb hby at_6) rfl (l' := #[.val (.int p0), .val (.int p1), .val (.int p2), .val (.int p3), .val (.int ((p1 + (8 : Int32)) + ((0 : Int32) * (p2 + (8 : Int32))))), .unset, .unset, .unset, .unset, .unset, .unset, .unset, .unset, .unset]) rfl ?_
    show Steps p.tables e below (T1.setTop (mkF m 8 #[.val (.int p0), .val (.int p1), .val (.int p2), .val (.int p3), .val (.int ((p1 + (8 : Int32)) + ((0 : Int32) * (p2 + (8 : Int32))))), .unset, .unset, .unset, .unset, .unset, .unset, .unset, .unset, .unset] [])) _
    refine XS.iloadN X1.here hx rfl (hb hby at_8) rfl ?_
    show Steps p.tables e below (T1.setTop (mkF m 9 #[.val (.int p0), .val (.int p1), .val (.int p2), .val (.int p3), .val (.int ((p1 + (8 : Int32)) + ((0 : Int32) * (p2 + (8 : Int32))))), .unset, .unset, .unset, .unset, .unset, .unset, .unset, .unset, .unset] [(.int p0)])) _
    refine XS.iloadN X1.here hx rfl (hb hby at_9) rfl ?_
    show Steps p.tables e below (T1.setTop (mkF m 10 #[.val (.int p0), .val (.int p1), .val (.int p2), .val (.int p3), .val (.int ((p1 + (8 : Int32)) + ((0 : Int32) * (p2 + (8 : Int32))))), .unset, .unset, .unset, .unset, .unset, .unset, .unset, .unset, .unset] [(.int p1), (.int p0)])) _
    refine XS.iloadN X1.here hx rfl (hb hby at_10) rfl ?_
    show Steps p.tables e below (T1.setTop (mkF m 11 #[.val (.int p0), .val (.int p1), .val (.int p2), .val (.int p3), .val (.int ((p1 + (8 : Int32)) + ((0 : Int32) * (p2 + (8 : Int32))))), .unset, .unset, .unset, .unset, .unset, .unset, .unset, .unset, .unset] [(.int p2), (.int p1), (.int p0)])) _
    refine st2 _ ?_
    show Steps p.tables e below (T2.setTop (mkF m 14 #[.val (.int p0), .val (.int p1), .val (.int p2), .val (.int p3), .val (.int ((p1 + (8 : Int32)) + ((0 : Int32) * (p2 + (8 : Int32))))), .unset, .unset, .unset, .unset, .unset, .unset, .unset, .unset, .unset] [(.int ((p1 + (8 : Int32)) + (p0 * (p2 + (8 : Int32)))))])) _
    refine XS.istore X2.here hx rfl (hb hby at_14) rfl (l' := #[.val (.int p0), .val (.int p1), .val (.int p2), .val (.int p3), .val (.int ((p1 + (8 : Int32)) + ((0 : Int32) * (p2 + (8 : Int32))))), .val (.int ((p1 + (8 : Int32)) + (p0 * (p2 + (8 : Int32))))), .unset, .unset, .unset, .unset, .unset, .unset, .unset, .unset]) rfl ?_
    show Steps p.tables e below (T2.setTop (mkF m 16 #[.val (.int p0), .val (.int p1), .val (.int p2), .val (.int p3), .val (.int ((p1 + (8 : Int32)) + ((0 : Int32) * (p2 + (8 : Int32))))), .val (.int ((p1 + (8 : Int32)) + (p0 * (p2 + (8 : Int32))))), .unset, .unset, .unset, .unset, .unset, .unset, .unset, .unset] [])) _
    refine XS.iloadN X2.here hx rfl (hb hby at_16) rfl ?_
    show Steps p.tables e below (T2.setTop (mkF m 17 #[.val (.int p0), .val (.int p1), .val (.int p2), .val (.int p3), .val (.int ((p1 + (8 : Int32)) + ((0 : Int32) * (p2 + (8 : Int32))))), .val (.int ((p1 + (8 : Int32)) + (p0 * (p2 + (8 : Int32))))), .unset, .unset, .unset, .unset, .unset, .unset, .unset, .unset] [(.int p0)])) _
    refine XS.iconst X2.here hx rfl (hb hby at_17) ?_
    show Steps p.tables e below (T2.setTop (mkF m 18 #[.val (.int p0), .val (.int p1), .val (.int p2), .val (.int p3), .val (.int ((p1 + (8 : Int32)) + ((0 : Int32) * (p2 + (8 : Int32))))), .val (.int ((p1 + (8 : Int32)) + (p0 * (p2 + (8 : Int32))))), .unset, .unset, .unset, .unset, .unset, .unset, .unset, .unset] [(.int (1 : Int32)), (.int p0)])) _
    refine XS.iadd X2.here hx rfl (hb hby at_18) rfl ?_
    show Steps p.tables e below (T2.setTop (mkF m 19 #[.val (.int p0), .val (.int p1), .val (.int p2), .val (.int p3), .val (.int ((p1 + (8 : Int32)) + ((0 : Int32) * (p2 + (8 : Int32))))), .val (.int ((p1 + (8 : Int32)) + (p0 * (p2 + (8 : Int32))))), .unset, .unset, .unset, .unset, .unset, .unset, .unset, .unset] [(.int (p0 + (1 : Int32)))])) _
    refine XS.iloadN X2.here hx rfl (hb hby at_19) rfl ?_
    show Steps p.tables e below (T2.setTop (mkF m 20 #[.val (.int p0), .val (.int p1), .val (.int p2), .val (.int p3), .val (.int ((p1 + (8 : Int32)) + ((0 : Int32) * (p2 + (8 : Int32))))), .val (.int ((p1 + (8 : Int32)) + (p0 * (p2 + (8 : Int32))))), .unset, .unset, .unset, .unset, .unset, .unset, .unset, .unset] [(.int p1), (.int (p0 + (1 : Int32)))])) _
    refine XS.iloadN X2.here hx rfl (hb hby at_20) rfl ?_
    show Steps p.tables e below (T2.setTop (mkF m 21 #[.val (.int p0), .val (.int p1), .val (.int p2), .val (.int p3), .val (.int ((p1 + (8 : Int32)) + ((0 : Int32) * (p2 + (8 : Int32))))), .val (.int ((p1 + (8 : Int32)) + (p0 * (p2 + (8 : Int32))))), .unset, .unset, .unset, .unset, .unset, .unset, .unset, .unset] [(.int p2), (.int p1), (.int (p0 + (1 : Int32)))])) _
    refine st3 _ ?_
    show Steps p.tables e below (T3.setTop (mkF m 24 #[.val (.int p0), .val (.int p1), .val (.int p2), .val (.int p3), .val (.int ((p1 + (8 : Int32)) + ((0 : Int32) * (p2 + (8 : Int32))))), .val (.int ((p1 + (8 : Int32)) + (p0 * (p2 + (8 : Int32))))), .unset, .unset, .unset, .unset, .unset, .unset, .unset, .unset] [(.int ((p1 + (8 : Int32)) + ((p0 + (1 : Int32)) * (p2 + (8 : Int32)))))])) _
    refine XS.istore X3.here hx rfl (hb hby at_24) rfl (l' := #[.val (.int p0), .val (.int p1), .val (.int p2), .val (.int p3), .val (.int ((p1 + (8 : Int32)) + ((0 : Int32) * (p2 + (8 : Int32))))), .val (.int ((p1 + (8 : Int32)) + (p0 * (p2 + (8 : Int32))))), .val (.int ((p1 + (8 : Int32)) + ((p0 + (1 : Int32)) * (p2 + (8 : Int32))))), .unset, .unset, .unset, .unset, .unset, .unset, .unset]) rfl ?_
    show Steps p.tables e below (T3.setTop (mkF m 26 #[.val (.int p0), .val (.int p1), .val (.int p2), .val (.int p3), .val (.int ((p1 + (8 : Int32)) + ((0 : Int32) * (p2 + (8 : Int32))))), .val (.int ((p1 + (8 : Int32)) + (p0 * (p2 + (8 : Int32))))), .val (.int ((p1 + (8 : Int32)) + ((p0 + (1 : Int32)) * (p2 + (8 : Int32))))), .unset, .unset, .unset, .unset, .unset, .unset, .unset] [])) _
    refine XS.iloadN X3.here hx rfl (hb hby at_26) rfl ?_
    show Steps p.tables e below (T3.setTop (mkF m 27 #[.val (.int p0), .val (.int p1), .val (.int p2), .val (.int p3), .val (.int ((p1 + (8 : Int32)) + ((0 : Int32) * (p2 + (8 : Int32))))), .val (.int ((p1 + (8 : Int32)) + (p0 * (p2 + (8 : Int32))))), .val (.int ((p1 + (8 : Int32)) + ((p0 + (1 : Int32)) * (p2 + (8 : Int32))))), .unset, .unset, .unset, .unset, .unset, .unset, .unset] [(.int p0)])) _
    refine XS.iloadN X3.here hx rfl (hb hby at_27) rfl ?_
    show Steps p.tables e below (T3.setTop (mkF m 28 #[.val (.int p0), .val (.int p1), .val (.int p2), .val (.int p3), .val (.int ((p1 + (8 : Int32)) + ((0 : Int32) * (p2 + (8 : Int32))))), .val (.int ((p1 + (8 : Int32)) + (p0 * (p2 + (8 : Int32))))), .val (.int ((p1 + (8 : Int32)) + ((p0 + (1 : Int32)) * (p2 + (8 : Int32))))), .unset, .unset, .unset, .unset, .unset, .unset, .unset] [(.int p1), (.int p0)])) _
    refine XS.iloadN X3.here hx rfl (hb hby at_28) rfl ?_
    show Steps p.tables e below (T3.setTop (mkF m 29 #[.val (.int p0), .val (.int p1), .val (.int p2), .val (.int p3), .val (.int ((p1 + (8 : Int32)) + ((0 : Int32) * (p2 + (8 : Int32))))), .val (.int ((p1 + (8 : Int32)) + (p0 * (p2 + (8 : Int32))))), .val (.int ((p1 + (8 : Int32)) + ((p0 + (1 : Int32)) * (p2 + (8 : Int32))))), .unset, .unset, .unset, .unset, .unset, .unset, .unset] [(.int p3), (.int p1), (.int p0)])) _
    refine XS.iadd X3.here hx rfl (hb hby at_29) rfl ?_
    show Steps p.tables e below (T3.setTop (mkF m 30 #[.val (.int p0), .val (.int p1), .val (.int p2), .val (.int p3), .val (.int ((p1 + (8 : Int32)) + ((0 : Int32) * (p2 + (8 : Int32))))), .val (.int ((p1 + (8 : Int32)) + (p0 * (p2 + (8 : Int32))))), .val (.int ((p1 + (8 : Int32)) + ((p0 + (1 : Int32)) * (p2 + (8 : Int32))))), .unset, .unset, .unset, .unset, .unset, .unset, .unset] [(.int (p1 + p3)), (.int p0)])) _
    refine XS.iloadN X3.here hx rfl (hb hby at_30) rfl ?_
    show Steps p.tables e below (T3.setTop (mkF m 31 #[.val (.int p0), .val (.int p1), .val (.int p2), .val (.int p3), .val (.int ((p1 + (8 : Int32)) + ((0 : Int32) * (p2 + (8 : Int32))))), .val (.int ((p1 + (8 : Int32)) + (p0 * (p2 + (8 : Int32))))), .val (.int ((p1 + (8 : Int32)) + ((p0 + (1 : Int32)) * (p2 + (8 : Int32))))), .unset, .unset, .unset, .unset, .unset, .unset, .unset] [(.int p2), (.int (p1 + p3)), (.int p0)])) _
    refine st4 _ ?_
    show Steps p.tables e below (T4.setTop (mkF m 34 #[.val (.int p0), .val (.int p1), .val (.int p2), .val (.int p3), .val (.int ((p1 + (8 : Int32)) + ((0 : Int32) * (p2 + (8 : Int32))))), .val (.int ((p1 + (8 : Int32)) + (p0 * (p2 + (8 : Int32))))), .val (.int ((p1 + (8 : Int32)) + ((p0 + (1 : Int32)) * (p2 + (8 : Int32))))), .unset, .unset, .unset, .unset, .unset, .unset, .unset] [(.int (((p1 + p3) + (8 : Int32)) + (p0 * (p2 + (8 : Int32)))))])) _
    refine XS.istore X4.here hx rfl (hb hby at_34) rfl (l' := #[.val (.int p0), .val (.int p1), .val (.int p2), .val (.int p3), .val (.int ((p1 + (8 : Int32)) + ((0 : Int32) * (p2 + (8 : Int32))))), .val (.int ((p1 + (8 : Int32)) + (p0 * (p2 + (8 : Int32))))), .val (.int ((p1 + (8 : Int32)) + ((p0 + (1 : Int32)) * (p2 + (8 : Int32))))), .val (.int (((p1 + p3) + (8 : Int32)) + (p0 * (p2 + (8 : Int32))))), .unset, .unset, .unset, .unset, .unset, .unset]) rfl ?_
    show Steps p.tables e below (T4.setTop (mkF m 36 #[.val (.int p0), .val (.int p1), .val (.int p2), .val (.int p3), .val (.int ((p1 + (8 : Int32)) + ((0 : Int32) * (p2 + (8 : Int32))))), .val (.int ((p1 + (8 : Int32)) + (p0 * (p2 + (8 : Int32))))), .val (.int ((p1 + (8 : Int32)) + ((p0 + (1 : Int32)) * (p2 + (8 : Int32))))), .val (.int (((p1 + p3) + (8 : Int32)) + (p0 * (p2 + (8 : Int32))))), .unset, .unset, .unset, .unset, .unset, .unset] [])) _
    refine XS.iloadN X4.here hx rfl (hb hby at_36) rfl ?_
    show Steps p.tables e below (T4.setTop (mkF m 37 #[.val (.int p0), .val (.int p1), .val (.int p2), .val (.int p3), .val (.int ((p1 + (8 : Int32)) + ((0 : Int32) * (p2 + (8 : Int32))))), .val (.int ((p1 + (8 : Int32)) + (p0 * (p2 + (8 : Int32))))), .val (.int ((p1 + (8 : Int32)) + ((p0 + (1 : Int32)) * (p2 + (8 : Int32))))), .val (.int (((p1 + p3) + (8 : Int32)) + (p0 * (p2 + (8 : Int32))))), .unset, .unset, .unset, .unset, .unset, .unset] [(.int p2)])) _
    refine st5 _ ?_
    show Steps p.tables e below (T5.setTop (mkF m 40 #[.val (.int p0), .val (.int p1), .val (.int p2), .val (.int p3), .val (.int ((p1 + (8 : Int32)) + ((0 : Int32) * (p2 + (8 : Int32))))), .val (.int ((p1 + (8 : Int32)) + (p0 * (p2 + (8 : Int32))))), .val (.int ((p1 + (8 : Int32)) + ((p0 + (1 : Int32)) * (p2 + (8 : Int32))))), .val (.int (((p1 + p3) + (8 : Int32)) + (p0 * (p2 + (8 : Int32))))), .unset, .unset, .unset, .unset, .unset, .unset] [(.int (p2 + (8 : Int32)))])) _
    refine XS.istore X5.here hx rfl (hb hby at_40) rfl (l' := #[.val (.int p0), .val (.int p1), .val (.int p2), .val (.int p3), .val (.int ((p1 + (8 : Int32)) + ((0 : Int32) * (p2 + (8 : Int32))))), .val (.int ((p1 + (8 : Int32)) + (p0 * (p2 + (8 : Int32))))), .val (.int ((p1 + (8 : Int32)) + ((p0 + (1 : Int32)) * (p2 + (8 : Int32))))), .val (.int (((p1 + p3) + (8 : Int32)) + (p0 * (p2 + (8 : Int32))))), .val (.int (p2 + (8 : Int32))), .unset, .unset, .unset, .unset, .unset]) rfl ?_
    show Steps p.tables e below (T5.setTop (mkF m 42 #[.val (.int p0), .val (.int p1), .val (.int p2), .val (.int p3), .val (.int ((p1 + (8 : Int32)) + ((0 : Int32) * (p2 + (8 : Int32))))), .val (.int ((p1 + (8 : Int32)) + (p0 * (p2 + (8 : Int32))))), .val (.int ((p1 + (8 : Int32)) + ((p0 + (1 : Int32)) * (p2 + (8 : Int32))))), .val (.int (((p1 + p3) + (8 : Int32)) + (p0 * (p2 + (8 : Int32))))), .val (.int (p2 + (8 : Int32))), .unset, .unset, .unset, .unset, .unset] [])) _
    refine XS.iload X5.here hx rfl (hb hby at_42) rfl ?_
    show Steps p.tables e below (T5.setTop (mkF m 44 #[.val (.int p0), .val (.int p1), .val (.int p2), .val (.int p3), .val (.int ((p1 + (8 : Int32)) + ((0 : Int32) * (p2 + (8 : Int32))))), .val (.int ((p1 + (8 : Int32)) + (p0 * (p2 + (8 : Int32))))), .val (.int ((p1 + (8 : Int32)) + ((p0 + (1 : Int32)) * (p2 + (8 : Int32))))), .val (.int (((p1 + p3) + (8 : Int32)) + (p0 * (p2 + (8 : Int32))))), .val (.int (p2 + (8 : Int32))), .unset, .unset, .unset, .unset, .unset] [(.int ((p1 + (8 : Int32)) + ((0 : Int32) * (p2 + (8 : Int32)))))])) _
    refine XS.iloadN X5.here hx rfl (hb hby at_44) rfl ?_
    show Steps p.tables e below (T5.setTop (mkF m 45 #[.val (.int p0), .val (.int p1), .val (.int p2), .val (.int p3), .val (.int ((p1 + (8 : Int32)) + ((0 : Int32) * (p2 + (8 : Int32))))), .val (.int ((p1 + (8 : Int32)) + (p0 * (p2 + (8 : Int32))))), .val (.int ((p1 + (8 : Int32)) + ((p0 + (1 : Int32)) * (p2 + (8 : Int32))))), .val (.int (((p1 + p3) + (8 : Int32)) + (p0 * (p2 + (8 : Int32))))), .val (.int (p2 + (8 : Int32))), .unset, .unset, .unset, .unset, .unset] [(.int p1), (.int ((p1 + (8 : Int32)) + ((0 : Int32) * (p2 + (8 : Int32)))))])) _
    refine XS.bipush X5.here hx rfl (hb hby at_45) ?_
    show Steps p.tables e below (T5.setTop (mkF m 47 #[.val (.int p0), .val (.int p1), .val (.int p2), .val (.int p3), .val (.int ((p1 + (8 : Int32)) + ((0 : Int32) * (p2 + (8 : Int32))))), .val (.int ((p1 + (8 : Int32)) + (p0 * (p2 + (8 : Int32))))), .val (.int ((p1 + (8 : Int32)) + ((p0 + (1 : Int32)) * (p2 + (8 : Int32))))), .val (.int (((p1 + p3) + (8 : Int32)) + (p0 * (p2 + (8 : Int32))))), .val (.int (p2 + (8 : Int32))), .unset, .unset, .unset, .unset, .unset] [(.int (8 : Int32)), (.int p1), (.int ((p1 + (8 : Int32)) + ((0 : Int32) * (p2 + (8 : Int32)))))])) _
    refine XS.iadd X5.here hx rfl (hb hby at_47) rfl ?_
    show Steps p.tables e below (T5.setTop (mkF m 48 #[.val (.int p0), .val (.int p1), .val (.int p2), .val (.int p3), .val (.int ((p1 + (8 : Int32)) + ((0 : Int32) * (p2 + (8 : Int32))))), .val (.int ((p1 + (8 : Int32)) + (p0 * (p2 + (8 : Int32))))), .val (.int ((p1 + (8 : Int32)) + ((p0 + (1 : Int32)) * (p2 + (8 : Int32))))), .val (.int (((p1 + p3) + (8 : Int32)) + (p0 * (p2 + (8 : Int32))))), .val (.int (p2 + (8 : Int32))), .unset, .unset, .unset, .unset, .unset] [(.int (p1 + (8 : Int32))), (.int ((p1 + (8 : Int32)) + ((0 : Int32) * (p2 + (8 : Int32)))))])) _
    refine XS.icmpNo X5.here hx rfl (hb hby at_48) rfl (teq (own_r0 p1 p2 : ((p1 + (8 : Int32)) + ((0 : Int32) * (p2 + (8 : Int32)))) = (p1 + (8 : Int32)))).2 ?_
    show Steps p.tables e below (T5.setTop (mkF m 51 #[.val (.int p0), .val (.int p1), .val (.int p2), .val (.int p3), .val (.int ((p1 + (8 : Int32)) + ((0 : Int32) * (p2 + (8 : Int32))))), .val (.int ((p1 + (8 : Int32)) + (p0 * (p2 + (8 : Int32))))), .val (.int ((p1 + (8 : Int32)) + ((p0 + (1 : Int32)) * (p2 + (8 : Int32))))), .val (.int (((p1 + p3) + (8 : Int32)) + (p0 * (p2 + (8 : Int32))))), .val (.int (p2 + (8 : Int32))), .unset, .unset, .unset, .unset, .unset] [])) _
    refine XS.iconst X5.here hx rfl (hb hby at_51) ?_
    show Steps p.tables e below (T5.setTop (mkF m 52 #[.val (.int p0), .val (.int p1), .val (.int p2), .val (.int p3), .val (.int ((p1 + (8 : Int32)) + ((0 : Int32) * (p2 + (8 : Int32))))), .val (.int ((p1 + (8 : Int32)) + (p0 * (p2 + (8 : Int32))))), .val (.int ((p1 + (8 : Int32)) + ((p0 + (1 : Int32)) * (p2 + (8 : Int32))))), .val (.int (((p1 + p3) + (8 : Int32)) + (p0 * (p2 + (8 : Int32))))), .val (.int (p2 + (8 : Int32))), .unset, .unset, .unset, .unset, .unset] [(.int (1 : Int32))])) _
    refine XS.goto X5.here hx rfl (pc0 := 52) (pc' := 56) rfl (hb hby at_52) (by decide) (by decide) ?_
    show Steps p.tables e below (T5.setTop (mkF m 56 #[.val (.int p0), .val (.int p1), .val (.int p2), .val (.int p3), .val (.int ((p1 + (8 : Int32)) + ((0 : Int32) * (p2 + (8 : Int32))))), .val (.int ((p1 + (8 : Int32)) + (p0 * (p2 + (8 : Int32))))), .val (.int ((p1 + (8 : Int32)) + ((p0 + (1 : Int32)) * (p2 + (8 : Int32))))), .val (.int (((p1 + p3) + (8 : Int32)) + (p0 * (p2 + (8 : Int32))))), .val (.int (p2 + (8 : Int32))), .unset, .unset, .unset, .unset, .unset] [(.int (1 : Int32))])) _
    refine XS.istore X5.here hx rfl (hb hby at_56) rfl (l' := #[.val (.int p0), .val (.int p1), .val (.int p2), .val (.int p3), .val (.int ((p1 + (8 : Int32)) + ((0 : Int32) * (p2 + (8 : Int32))))), .val (.int ((p1 + (8 : Int32)) + (p0 * (p2 + (8 : Int32))))), .val (.int ((p1 + (8 : Int32)) + ((p0 + (1 : Int32)) * (p2 + (8 : Int32))))), .val (.int (((p1 + p3) + (8 : Int32)) + (p0 * (p2 + (8 : Int32))))), .val (.int (p2 + (8 : Int32))), .val (.int (1 : Int32)), .unset, .unset, .unset, .unset]) rfl ?_
    show Steps p.tables e below (T5.setTop (mkF m 58 #[.val (.int p0), .val (.int p1), .val (.int p2), .val (.int p3), .val (.int ((p1 + (8 : Int32)) + ((0 : Int32) * (p2 + (8 : Int32))))), .val (.int ((p1 + (8 : Int32)) + (p0 * (p2 + (8 : Int32))))), .val (.int ((p1 + (8 : Int32)) + ((p0 + (1 : Int32)) * (p2 + (8 : Int32))))), .val (.int (((p1 + p3) + (8 : Int32)) + (p0 * (p2 + (8 : Int32))))), .val (.int (p2 + (8 : Int32))), .val (.int (1 : Int32)), .unset, .unset, .unset, .unset] [])) _
    refine XS.iload X5.here hx rfl (hb hby at_58) rfl ?_
    show Steps p.tables e below (T5.setTop (mkF m 60 #[.val (.int p0), .val (.int p1), .val (.int p2), .val (.int p3), .val (.int ((p1 + (8 : Int32)) + ((0 : Int32) * (p2 + (8 : Int32))))), .val (.int ((p1 + (8 : Int32)) + (p0 * (p2 + (8 : Int32))))), .val (.int ((p1 + (8 : Int32)) + ((p0 + (1 : Int32)) * (p2 + (8 : Int32))))), .val (.int (((p1 + p3) + (8 : Int32)) + (p0 * (p2 + (8 : Int32))))), .val (.int (p2 + (8 : Int32))), .val (.int (1 : Int32)), .unset, .unset, .unset, .unset] [(.int ((p1 + (8 : Int32)) + ((p0 + (1 : Int32)) * (p2 + (8 : Int32)))))])) _
    refine XS.iload X5.here hx rfl (hb hby at_60) rfl ?_
    show Steps p.tables e below (T5.setTop (mkF m 62 #[.val (.int p0), .val (.int p1), .val (.int p2), .val (.int p3), .val (.int ((p1 + (8 : Int32)) + ((0 : Int32) * (p2 + (8 : Int32))))), .val (.int ((p1 + (8 : Int32)) + (p0 * (p2 + (8 : Int32))))), .val (.int ((p1 + (8 : Int32)) + ((p0 + (1 : Int32)) * (p2 + (8 : Int32))))), .val (.int (((p1 + p3) + (8 : Int32)) + (p0 * (p2 + (8 : Int32))))), .val (.int (p2 + (8 : Int32))), .val (.int (1 : Int32)), .unset, .unset, .unset, .unset] [(.int ((p1 + (8 : Int32)) + (p0 * (p2 + (8 : Int32))))), (.int ((p1 + (8 : Int32)) + ((p0 + (1 : Int32)) * (p2 + (8 : Int32)))))])) _
    refine XS.isub X5.here hx rfl (hb hby at_62) rfl ?_
    show Steps p.tables e below (T5.setTop (mkF m 63 #[.val (.int p0), .val (.int p1), .val (.int p2), .val (.int p3), .val (.int ((p1 + (8 : Int32)) + ((0 : Int32) * (p2 + (8 : Int32))))), .val (.int ((p1 + (8 : Int32)) + (p0 * (p2 + (8 : Int32))))), .val (.int ((p1 + (8 : Int32)) + ((p0 + (1 : Int32)) * (p2 + (8 : Int32))))), .val (.int (((p1 + p3) + (8 : Int32)) + (p0 * (p2 + (8 : Int32))))), .val (.int (p2 + (8 : Int32))), .val (.int (1 : Int32)), .unset, .unset, .unset, .unset] [(.int (((p1 + (8 : Int32)) + ((p0 + (1 : Int32)) * (p2 + (8 : Int32)))) - ((p1 + (8 : Int32)) + (p0 * (p2 + (8 : Int32))))))])) _
    refine XS.iload X5.here hx rfl (hb hby at_63) rfl ?_
    show Steps p.tables e below (T5.setTop (mkF m 65 #[.val (.int p0), .val (.int p1), .val (.int p2), .val (.int p3), .val (.int ((p1 + (8 : Int32)) + ((0 : Int32) * (p2 + (8 : Int32))))), .val (.int ((p1 + (8 : Int32)) + (p0 * (p2 + (8 : Int32))))), .val (.int ((p1 + (8 : Int32)) + ((p0 + (1 : Int32)) * (p2 + (8 : Int32))))), .val (.int (((p1 + p3) + (8 : Int32)) + (p0 * (p2 + (8 : Int32))))), .val (.int (p2 + (8 : Int32))), .val (.int (1 : Int32)), .unset, .unset, .unset, .unset] [(.int (p2 + (8 : Int32))), (.int (((p1 + (8 : Int32)) + ((p0 + (1 : Int32)) * (p2 + (8 : Int32)))) - ((p1 + (8 : Int32)) + (p0 * (p2 + (8 : Int32))))))])) _
    refine XS.icmpNo X5.here hx rfl (hb hby at_65) rfl (teq (own_rn p0 p1 p2 : (((p1 + (8 : Int32)) + ((p0 + (1 : Int32)) * (p2 + (8 : Int32)))) - ((p1 + (8 : Int32)) + (p0 * (p2 + (8 : Int32))))) = (p2 + (8 : Int32)))).2 ?_
    show Steps p.tables e below (T5.setTop (mkF m 68 #[.val (.int p0), .val (.int p1), .val (.int p2), .val (.int p3), .val (.int ((p1 + (8 : Int32)) + ((0 : Int32) * (p2 + (8 : Int32))))), .val (.int ((p1 + (8 : Int32)) + (p0 * (p2 + (8 : Int32))))), .val (.int ((p1 + (8 : Int32)) + ((p0 + (1 : Int32)) * (p2 + (8 : Int32))))), .val (.int (((p1 + p3) + (8 : Int32)) + (p0 * (p2 + (8 : Int32))))), .val (.int (p2 + (8 : Int32))), .val (.int (1 : Int32)), .unset, .unset, .unset, .unset] [])) _
    refine XS.iconst X5.here hx rfl (hb hby at_68) ?_
    show Steps p.tables e below (T5.setTop (mkF m 69 #[.val (.int p0), .val (.int p1), .val (.int p2), .val (.int p3), .val (.int ((p1 + (8 : Int32)) + ((0 : Int32) * (p2 + (8 : Int32))))), .val (.int ((p1 + (8 : Int32)) + (p0 * (p2 + (8 : Int32))))), .val (.int ((p1 + (8 : Int32)) + ((p0 + (1 : Int32)) * (p2 + (8 : Int32))))), .val (.int (((p1 + p3) + (8 : Int32)) + (p0 * (p2 + (8 : Int32))))), .val (.int (p2 + (8 : Int32))), .val (.int (1 : Int32)), .unset, .unset, .unset, .unset] [(.int (1 : Int32))])) _
    refine XS.goto X5.here hx rfl (pc0 := 69) (pc' := 73) rfl (hb hby at_69) (by decide) (by decide) ?_
    show Steps p.tables e below (T5.setTop (mkF m 73 #[.val (.int p0), .val (.int p1), .val (.int p2), .val (.int p3), .val (.int ((p1 + (8 : Int32)) + ((0 : Int32) * (p2 + (8 : Int32))))), .val (.int ((p1 + (8 : Int32)) + (p0 * (p2 + (8 : Int32))))), .val (.int ((p1 + (8 : Int32)) + ((p0 + (1 : Int32)) * (p2 + (8 : Int32))))), .val (.int (((p1 + p3) + (8 : Int32)) + (p0 * (p2 + (8 : Int32))))), .val (.int (p2 + (8 : Int32))), .val (.int (1 : Int32)), .unset, .unset, .unset, .unset] [(.int (1 : Int32))])) _
    refine XS.istore X5.here hx rfl (hb hby at_73) rfl (l' := #[.val (.int p0), .val (.int p1), .val (.int p2), .val (.int p3), .val (.int ((p1 + (8 : Int32)) + ((0 : Int32) * (p2 + (8 : Int32))))), .val (.int ((p1 + (8 : Int32)) + (p0 * (p2 + (8 : Int32))))), .val (.int ((p1 + (8 : Int32)) + ((p0 + (1 : Int32)) * (p2 + (8 : Int32))))), .val (.int (((p1 + p3) + (8 : Int32)) + (p0 * (p2 + (8 : Int32))))), .val (.int (p2 + (8 : Int32))), .val (.int (1 : Int32)), .val (.int (1 : Int32)), .unset, .unset, .unset]) rfl ?_
    show Steps p.tables e below (T5.setTop (mkF m 75 #[.val (.int p0), .val (.int p1), .val (.int p2), .val (.int p3), .val (.int ((p1 + (8 : Int32)) + ((0 : Int32) * (p2 + (8 : Int32))))), .val (.int ((p1 + (8 : Int32)) + (p0 * (p2 + (8 : Int32))))), .val (.int ((p1 + (8 : Int32)) + ((p0 + (1 : Int32)) * (p2 + (8 : Int32))))), .val (.int (((p1 + p3) + (8 : Int32)) + (p0 * (p2 + (8 : Int32))))), .val (.int (p2 + (8 : Int32))), .val (.int (1 : Int32)), .val (.int (1 : Int32)), .unset, .unset, .unset] [])) _
    refine XS.iload X5.here hx rfl (hb hby at_75) rfl ?_
    show Steps p.tables e below (T5.setTop (mkF m 77 #[.val (.int p0), .val (.int p1), .val (.int p2), .val (.int p3), .val (.int ((p1 + (8 : Int32)) + ((0 : Int32) * (p2 + (8 : Int32))))), .val (.int ((p1 + (8 : Int32)) + (p0 * (p2 + (8 : Int32))))), .val (.int ((p1 + (8 : Int32)) + ((p0 + (1 : Int32)) * (p2 + (8 : Int32))))), .val (.int (((p1 + p3) + (8 : Int32)) + (p0 * (p2 + (8 : Int32))))), .val (.int (p2 + (8 : Int32))), .val (.int (1 : Int32)), .val (.int (1 : Int32)), .unset, .unset, .unset] [(.int (p2 + (8 : Int32)))])) _
    refine XS.iloadN X5.here hx rfl (hb hby at_77) rfl ?_
    show Steps p.tables e below (T5.setTop (mkF m 78 #[.val (.int p0), .val (.int p1), .val (.int p2), .val (.int p3), .val (.int ((p1 + (8 : Int32)) + ((0 : Int32) * (p2 + (8 : Int32))))), .val (.int ((p1 + (8 : Int32)) + (p0 * (p2 + (8 : Int32))))), .val (.int ((p1 + (8 : Int32)) + ((p0 + (1 : Int32)) * (p2 + (8 : Int32))))), .val (.int (((p1 + p3) + (8 : Int32)) + (p0 * (p2 + (8 : Int32))))), .val (.int (p2 + (8 : Int32))), .val (.int (1 : Int32)), .val (.int (1 : Int32)), .unset, .unset, .unset] [(.int p2), (.int (p2 + (8 : Int32)))])) _
    refine XS.bipush X5.here hx rfl (hb hby at_78) ?_
    show Steps p.tables e below (T5.setTop (mkF m 80 #[.val (.int p0), .val (.int p1), .val (.int p2), .val (.int p3), .val (.int ((p1 + (8 : Int32)) + ((0 : Int32) * (p2 + (8 : Int32))))), .val (.int ((p1 + (8 : Int32)) + (p0 * (p2 + (8 : Int32))))), .val (.int ((p1 + (8 : Int32)) + ((p0 + (1 : Int32)) * (p2 + (8 : Int32))))), .val (.int (((p1 + p3) + (8 : Int32)) + (p0 * (p2 + (8 : Int32))))), .val (.int (p2 + (8 : Int32))), .val (.int (1 : Int32)), .val (.int (1 : Int32)), .unset, .unset, .unset] [(.int (8 : Int32)), (.int p2), (.int (p2 + (8 : Int32)))])) _
    refine XS.iadd X5.here hx rfl (hb hby at_80) rfl ?_
    show Steps p.tables e below (T5.setTop (mkF m 81 #[.val (.int p0), .val (.int p1), .val (.int p2), .val (.int p3), .val (.int ((p1 + (8 : Int32)) + ((0 : Int32) * (p2 + (8 : Int32))))), .val (.int ((p1 + (8 : Int32)) + (p0 * (p2 + (8 : Int32))))), .val (.int ((p1 + (8 : Int32)) + ((p0 + (1 : Int32)) * (p2 + (8 : Int32))))), .val (.int (((p1 + p3) + (8 : Int32)) + (p0 * (p2 + (8 : Int32))))), .val (.int (p2 + (8 : Int32))), .val (.int (1 : Int32)), .val (.int (1 : Int32)), .unset, .unset, .unset] [(.int (p2 + (8 : Int32))), (.int (p2 + (8 : Int32)))])) _
    refine XS.icmpNo X5.here hx rfl (hb hby at_81) rfl (teq (rfl : (p2 + (8 : Int32)) = (p2 + (8 : Int32)))).2 ?_
    show Steps p.tables e below (T5.setTop (mkF m 84 #[.val (.int p0), .val (.int p1), .val (.int p2), .val (.int p3), .val (.int ((p1 + (8 : Int32)) + ((0 : Int32) * (p2 + (8 : Int32))))), .val (.int ((p1 + (8 : Int32)) + (p0 * (p2 + (8 : Int32))))), .val (.int ((p1 + (8 : Int32)) + ((p0 + (1 : Int32)) * (p2 + (8 : Int32))))), .val (.int (((p1 + p3) + (8 : Int32)) + (p0 * (p2 + (8 : Int32))))), .val (.int (p2 + (8 : Int32))), .val (.int (1 : Int32)), .val (.int (1 : Int32)), .unset, .unset, .unset] [])) _
    refine XS.iconst X5.here hx rfl (hb hby at_84) ?_
    show Steps p.tables e below (T5.setTop (mkF m 85 #[.val (.int p0), .val (.int p1), .val (.int p2), .val (.int p3), .val (.int ((p1 + (8 : Int32)) + ((0 : Int32) * (p2 + (8 : Int32))))), .val (.int ((p1 + (8 : Int32)) + (p0 * (p2 + (8 : Int32))))), .val (.int ((p1 + (8 : Int32)) + ((p0 + (1 : Int32)) * (p2 + (8 : Int32))))), .val (.int (((p1 + p3) + (8 : Int32)) + (p0 * (p2 + (8 : Int32))))), .val (.int (p2 + (8 : Int32))), .val (.int (1 : Int32)), .val (.int (1 : Int32)), .unset, .unset, .unset] [(.int (1 : Int32))])) _
    refine XS.goto X5.here hx rfl (pc0 := 85) (pc' := 89) rfl (hb hby at_85) (by decide) (by decide) ?_
    show Steps p.tables e below (T5.setTop (mkF m 89 #[.val (.int p0), .val (.int p1), .val (.int p2), .val (.int p3), .val (.int ((p1 + (8 : Int32)) + ((0 : Int32) * (p2 + (8 : Int32))))), .val (.int ((p1 + (8 : Int32)) + (p0 * (p2 + (8 : Int32))))), .val (.int ((p1 + (8 : Int32)) + ((p0 + (1 : Int32)) * (p2 + (8 : Int32))))), .val (.int (((p1 + p3) + (8 : Int32)) + (p0 * (p2 + (8 : Int32))))), .val (.int (p2 + (8 : Int32))), .val (.int (1 : Int32)), .val (.int (1 : Int32)), .unset, .unset, .unset] [(.int (1 : Int32))])) _
    refine XS.istore X5.here hx rfl (hb hby at_89) rfl (l' := #[.val (.int p0), .val (.int p1), .val (.int p2), .val (.int p3), .val (.int ((p1 + (8 : Int32)) + ((0 : Int32) * (p2 + (8 : Int32))))), .val (.int ((p1 + (8 : Int32)) + (p0 * (p2 + (8 : Int32))))), .val (.int ((p1 + (8 : Int32)) + ((p0 + (1 : Int32)) * (p2 + (8 : Int32))))), .val (.int (((p1 + p3) + (8 : Int32)) + (p0 * (p2 + (8 : Int32))))), .val (.int (p2 + (8 : Int32))), .val (.int (1 : Int32)), .val (.int (1 : Int32)), .val (.int (1 : Int32)), .unset, .unset]) rfl ?_
    show Steps p.tables e below (T5.setTop (mkF m 91 #[.val (.int p0), .val (.int p1), .val (.int p2), .val (.int p3), .val (.int ((p1 + (8 : Int32)) + ((0 : Int32) * (p2 + (8 : Int32))))), .val (.int ((p1 + (8 : Int32)) + (p0 * (p2 + (8 : Int32))))), .val (.int ((p1 + (8 : Int32)) + ((p0 + (1 : Int32)) * (p2 + (8 : Int32))))), .val (.int (((p1 + p3) + (8 : Int32)) + (p0 * (p2 + (8 : Int32))))), .val (.int (p2 + (8 : Int32))), .val (.int (1 : Int32)), .val (.int (1 : Int32)), .val (.int (1 : Int32)), .unset, .unset] [])) _
    refine XS.iload X5.here hx rfl (hb hby at_91) rfl ?_
    show Steps p.tables e below (T5.setTop (mkF m 93 #[.val (.int p0), .val (.int p1), .val (.int p2), .val (.int p3), .val (.int ((p1 + (8 : Int32)) + ((0 : Int32) * (p2 + (8 : Int32))))), .val (.int ((p1 + (8 : Int32)) + (p0 * (p2 + (8 : Int32))))), .val (.int ((p1 + (8 : Int32)) + ((p0 + (1 : Int32)) * (p2 + (8 : Int32))))), .val (.int (((p1 + p3) + (8 : Int32)) + (p0 * (p2 + (8 : Int32))))), .val (.int (p2 + (8 : Int32))), .val (.int (1 : Int32)), .val (.int (1 : Int32)), .val (.int (1 : Int32)), .unset, .unset] [(.int ((p1 + (8 : Int32)) + ((p0 + (1 : Int32)) * (p2 + (8 : Int32)))))])) _
    refine XS.iload X5.here hx rfl (hb hby at_93) rfl ?_
    show Steps p.tables e below (T5.setTop (mkF m 95 #[.val (.int p0), .val (.int p1), .val (.int p2), .val (.int p3), .val (.int ((p1 + (8 : Int32)) + ((0 : Int32) * (p2 + (8 : Int32))))), .val (.int ((p1 + (8 : Int32)) + (p0 * (p2 + (8 : Int32))))), .val (.int ((p1 + (8 : Int32)) + ((p0 + (1 : Int32)) * (p2 + (8 : Int32))))), .val (.int (((p1 + p3) + (8 : Int32)) + (p0 * (p2 + (8 : Int32))))), .val (.int (p2 + (8 : Int32))), .val (.int (1 : Int32)), .val (.int (1 : Int32)), .val (.int (1 : Int32)), .unset, .unset] [(.int ((p1 + (8 : Int32)) + (p0 * (p2 + (8 : Int32))))), (.int ((p1 + (8 : Int32)) + ((p0 + (1 : Int32)) * (p2 + (8 : Int32)))))])) _
    refine XS.iloadN X5.here hx rfl (hb hby at_95) rfl ?_
    show Steps p.tables e below (T5.setTop (mkF m 96 #[.val (.int p0), .val (.int p1), .val (.int p2), .val (.int p3), .val (.int ((p1 + (8 : Int32)) + ((0 : Int32) * (p2 + (8 : Int32))))), .val (.int ((p1 + (8 : Int32)) + (p0 * (p2 + (8 : Int32))))), .val (.int ((p1 + (8 : Int32)) + ((p0 + (1 : Int32)) * (p2 + (8 : Int32))))), .val (.int (((p1 + p3) + (8 : Int32)) + (p0 * (p2 + (8 : Int32))))), .val (.int (p2 + (8 : Int32))), .val (.int (1 : Int32)), .val (.int (1 : Int32)), .val (.int (1 : Int32)), .unset, .unset] [(.int p2), (.int ((p1 + (8 : Int32)) + (p0 * (p2 + (8 : Int32))))), (.int ((p1 + (8 : Int32)) + ((p0 + (1 : Int32)) * (p2 + (8 : Int32)))))])) _
    refine XS.iadd X5.here hx rfl (hb hby at_96) rfl ?_
    show Steps p.tables e below (T5.setTop (mkF m 97 #[.val (.int p0), .val (.int p1), .val (.int p2), .val (.int p3), .val (.int ((p1 + (8 : Int32)) + ((0 : Int32) * (p2 + (8 : Int32))))), .val (.int ((p1 + (8 : Int32)) + (p0 * (p2 + (8 : Int32))))), .val (.int ((p1 + (8 : Int32)) + ((p0 + (1 : Int32)) * (p2 + (8 : Int32))))), .val (.int (((p1 + p3) + (8 : Int32)) + (p0 * (p2 + (8 : Int32))))), .val (.int (p2 + (8 : Int32))), .val (.int (1 : Int32)), .val (.int (1 : Int32)), .val (.int (1 : Int32)), .unset, .unset] [(.int (((p1 + (8 : Int32)) + (p0 * (p2 + (8 : Int32)))) + p2)), (.int ((p1 + (8 : Int32)) + ((p0 + (1 : Int32)) * (p2 + (8 : Int32)))))])) _
    refine XS.isub X5.here hx rfl (hb hby at_97) rfl ?_
    show Steps p.tables e below (T5.setTop (mkF m 98 #[.val (.int p0), .val (.int p1), .val (.int p2), .val (.int p3), .val (.int ((p1 + (8 : Int32)) + ((0 : Int32) * (p2 + (8 : Int32))))), .val (.int ((p1 + (8 : Int32)) + (p0 * (p2 + (8 : Int32))))), .val (.int ((p1 + (8 : Int32)) + ((p0 + (1 : Int32)) * (p2 + (8 : Int32))))), .val (.int (((p1 + p3) + (8 : Int32)) + (p0 * (p2 + (8 : Int32))))), .val (.int (p2 + (8 : Int32))), .val (.int (1 : Int32)), .val (.int (1 : Int32)), .val (.int (1 : Int32)), .unset, .unset] [(.int (((p1 + (8 : Int32)) + ((p0 + (1 : Int32)) * (p2 + (8 : Int32)))) - (((p1 + (8 : Int32)) + (p0 * (p2 + (8 : Int32)))) + p2)))])) _
    refine XS.bipush X5.here hx rfl (hb hby at_98) ?_
    show Steps p.tables e below (T5.setTop (mkF m 100 #[.val (.int p0), .val (.int p1), .val (.int p2), .val (.int p3), .val (.int ((p1 + (8 : Int32)) + ((0 : Int32) * (p2 + (8 : Int32))))), .val (.int ((p1 + (8 : Int32)) + (p0 * (p2 + (8 : Int32))))), .val (.int ((p1 + (8 : Int32)) + ((p0 + (1 : Int32)) * (p2 + (8 : Int32))))), .val (.int (((p1 + p3) + (8 : Int32)) + (p0 * (p2 + (8 : Int32))))), .val (.int (p2 + (8 : Int32))), .val (.int (1 : Int32)), .val (.int (1 : Int32)), .val (.int (1 : Int32)), .unset, .unset] [(.int (8 : Int32)), (.int (((p1 + (8 : Int32)) + ((p0 + (1 : Int32)) * (p2 + (8 : Int32)))) - (((p1 + (8 : Int32)) + (p0 * (p2 + (8 : Int32)))) + p2)))])) _
    refine XS.icmpNo X5.here hx rfl (hb hby at_100) rfl (teq (own_rg p0 p1 p2 : (((p1 + (8 : Int32)) + ((p0 + (1 : Int32)) * (p2 + (8 : Int32)))) - (((p1 + (8 : Int32)) + (p0 * (p2 + (8 : Int32)))) + p2)) = (8 : Int32))).2 ?_
    show Steps p.tables e below (T5.setTop (mkF m 103 #[.val (.int p0), .val (.int p1), .val (.int p2), .val (.int p3), .val (.int ((p1 + (8 : Int32)) + ((0 : Int32) * (p2 + (8 : Int32))))), .val (.int ((p1 + (8 : Int32)) + (p0 * (p2 + (8 : Int32))))), .val (.int ((p1 + (8 : Int32)) + ((p0 + (1 : Int32)) * (p2 + (8 : Int32))))), .val (.int (((p1 + p3) + (8 : Int32)) + (p0 * (p2 + (8 : Int32))))), .val (.int (p2 + (8 : Int32))), .val (.int (1 : Int32)), .val (.int (1 : Int32)), .val (.int (1 : Int32)), .unset, .unset] [])) _
    refine XS.iconst X5.here hx rfl (hb hby at_103) ?_
    show Steps p.tables e below (T5.setTop (mkF m 104 #[.val (.int p0), .val (.int p1), .val (.int p2), .val (.int p3), .val (.int ((p1 + (8 : Int32)) + ((0 : Int32) * (p2 + (8 : Int32))))), .val (.int ((p1 + (8 : Int32)) + (p0 * (p2 + (8 : Int32))))), .val (.int ((p1 + (8 : Int32)) + ((p0 + (1 : Int32)) * (p2 + (8 : Int32))))), .val (.int (((p1 + p3) + (8 : Int32)) + (p0 * (p2 + (8 : Int32))))), .val (.int (p2 + (8 : Int32))), .val (.int (1 : Int32)), .val (.int (1 : Int32)), .val (.int (1 : Int32)), .unset, .unset] [(.int (1 : Int32))])) _
    refine XS.goto X5.here hx rfl (pc0 := 104) (pc' := 108) rfl (hb hby at_104) (by decide) (by decide) ?_
    show Steps p.tables e below (T5.setTop (mkF m 108 #[.val (.int p0), .val (.int p1), .val (.int p2), .val (.int p3), .val (.int ((p1 + (8 : Int32)) + ((0 : Int32) * (p2 + (8 : Int32))))), .val (.int ((p1 + (8 : Int32)) + (p0 * (p2 + (8 : Int32))))), .val (.int ((p1 + (8 : Int32)) + ((p0 + (1 : Int32)) * (p2 + (8 : Int32))))), .val (.int (((p1 + p3) + (8 : Int32)) + (p0 * (p2 + (8 : Int32))))), .val (.int (p2 + (8 : Int32))), .val (.int (1 : Int32)), .val (.int (1 : Int32)), .val (.int (1 : Int32)), .unset, .unset] [(.int (1 : Int32))])) _
    refine XS.istore X5.here hx rfl (hb hby at_108) rfl (l' := #[.val (.int p0), .val (.int p1), .val (.int p2), .val (.int p3), .val (.int ((p1 + (8 : Int32)) + ((0 : Int32) * (p2 + (8 : Int32))))), .val (.int ((p1 + (8 : Int32)) + (p0 * (p2 + (8 : Int32))))), .val (.int ((p1 + (8 : Int32)) + ((p0 + (1 : Int32)) * (p2 + (8 : Int32))))), .val (.int (((p1 + p3) + (8 : Int32)) + (p0 * (p2 + (8 : Int32))))), .val (.int (p2 + (8 : Int32))), .val (.int (1 : Int32)), .val (.int (1 : Int32)), .val (.int (1 : Int32)), .val (.int (1 : Int32)), .unset]) rfl ?_
    show Steps p.tables e below (T5.setTop (mkF m 110 #[.val (.int p0), .val (.int p1), .val (.int p2), .val (.int p3), .val (.int ((p1 + (8 : Int32)) + ((0 : Int32) * (p2 + (8 : Int32))))), .val (.int ((p1 + (8 : Int32)) + (p0 * (p2 + (8 : Int32))))), .val (.int ((p1 + (8 : Int32)) + ((p0 + (1 : Int32)) * (p2 + (8 : Int32))))), .val (.int (((p1 + p3) + (8 : Int32)) + (p0 * (p2 + (8 : Int32))))), .val (.int (p2 + (8 : Int32))), .val (.int (1 : Int32)), .val (.int (1 : Int32)), .val (.int (1 : Int32)), .val (.int (1 : Int32)), .unset] [])) _
    refine XS.iload X5.here hx rfl (hb hby at_110) rfl ?_
    show Steps p.tables e below (T5.setTop (mkF m 112 #[.val (.int p0), .val (.int p1), .val (.int p2), .val (.int p3), .val (.int ((p1 + (8 : Int32)) + ((0 : Int32) * (p2 + (8 : Int32))))), .val (.int ((p1 + (8 : Int32)) + (p0 * (p2 + (8 : Int32))))), .val (.int ((p1 + (8 : Int32)) + ((p0 + (1 : Int32)) * (p2 + (8 : Int32))))), .val (.int (((p1 + p3) + (8 : Int32)) + (p0 * (p2 + (8 : Int32))))), .val (.int (p2 + (8 : Int32))), .val (.int (1 : Int32)), .val (.int (1 : Int32)), .val (.int (1 : Int32)), .val (.int (1 : Int32)), .unset] [(.int (((p1 + p3) + (8 : Int32)) + (p0 * (p2 + (8 : Int32)))))])) _
    refine XS.iload X5.here hx rfl (hb hby at_112) rfl ?_
    show Steps p.tables e below (T5.setTop (mkF m 114 #[.val (.int p0), .val (.int p1), .val (.int p2), .val (.int p3), .val (.int ((p1 + (8 : Int32)) + ((0 : Int32) * (p2 + (8 : Int32))))), .val (.int ((p1 + (8 : Int32)) + (p0 * (p2 + (8 : Int32))))), .val (.int ((p1 + (8 : Int32)) + ((p0 + (1 : Int32)) * (p2 + (8 : Int32))))), .val (.int (((p1 + p3) + (8 : Int32)) + (p0 * (p2 + (8 : Int32))))), .val (.int (p2 + (8 : Int32))), .val (.int (1 : Int32)), .val (.int (1 : Int32)), .val (.int (1 : Int32)), .val (.int (1 : Int32)), .unset] [(.int ((p1 + (8 : Int32)) + (p0 * (p2 + (8 : Int32))))), (.int (((p1 + p3) + (8 : Int32)) + (p0 * (p2 + (8 : Int32)))))])) _
    refine XS.isub X5.here hx rfl (hb hby at_114) rfl ?_
    show Steps p.tables e below (T5.setTop (mkF m 115 #[.val (.int p0), .val (.int p1), .val (.int p2), .val (.int p3), .val (.int ((p1 + (8 : Int32)) + ((0 : Int32) * (p2 + (8 : Int32))))), .val (.int ((p1 + (8 : Int32)) + (p0 * (p2 + (8 : Int32))))), .val (.int ((p1 + (8 : Int32)) + ((p0 + (1 : Int32)) * (p2 + (8 : Int32))))), .val (.int (((p1 + p3) + (8 : Int32)) + (p0 * (p2 + (8 : Int32))))), .val (.int (p2 + (8 : Int32))), .val (.int (1 : Int32)), .val (.int (1 : Int32)), .val (.int (1 : Int32)), .val (.int (1 : Int32)), .unset] [(.int ((((p1 + p3) + (8 : Int32)) + (p0 * (p2 + (8 : Int32)))) - ((p1 + (8 : Int32)) + (p0 * (p2 + (8 : Int32))))))])) _
    refine XS.iloadN X5.here hx rfl (hb hby at_115) rfl ?_
    show Steps p.tables e below (T5.setTop (mkF m 116 #[.val (.int p0), .val (.int p1), .val (.int p2), .val (.int p3), .val (.int ((p1 + (8 : Int32)) + ((0 : Int32) * (p2 + (8 : Int32))))), .val (.int ((p1 + (8 : Int32)) + (p0 * (p2 + (8 : Int32))))), .val (.int ((p1 + (8 : Int32)) + ((p0 + (1 : Int32)) * (p2 + (8 : Int32))))), .val (.int (((p1 + p3) + (8 : Int32)) + (p0 * (p2 + (8 : Int32))))), .val (.int (p2 + (8 : Int32))), .val (.int (1 : Int32)), .val (.int (1 : Int32)), .val (.int (1 : Int32)), .val (.int (1 : Int32)), .unset] [(.int p3), (.int ((((p1 + p3) + (8 : Int32)) + (p0 * (p2 + (8 : Int32)))) - ((p1 + (8 : Int32)) + (p0 * (p2 + (8 : Int32))))))])) _
    refine XS.icmpNo X5.here hx rfl (hb hby at_116) rfl (teq (own_rs p0 p1 p2 p3 : ((((p1 + p3) + (8 : Int32)) + (p0 * (p2 + (8 : Int32)))) - ((p1 + (8 : Int32)) + (p0 * (p2 + (8 : Int32))))) = p3)).2 ?_
    show Steps p.tables e below (T5.setTop (mkF m 119 #[.val (.int p0), .val (.int p1), .val (.int p2), .val (.int p3), .val (.int ((p1 + (8 : Int32)) + ((0 : Int32) * (p2 + (8 : Int32))))), .val (.int ((p1 + (8 : Int32)) + (p0 * (p2 + (8 : Int32))))), .val (.int ((p1 + (8 : Int32)) + ((p0 + (1 : Int32)) * (p2 + (8 : Int32))))), .val (.int (((p1 + p3) + (8 : Int32)) + (p0 * (p2 + (8 : Int32))))), .val (.int (p2 + (8 : Int32))), .val (.int (1 : Int32)), .val (.int (1 : Int32)), .val (.int (1 : Int32)), .val (.int (1 : Int32)), .unset] [])) _
    refine XS.iconst X5.here hx rfl (hb hby at_119) ?_
    show Steps p.tables e below (T5.setTop (mkF m 120 #[.val (.int p0), .val (.int p1), .val (.int p2), .val (.int p3), .val (.int ((p1 + (8 : Int32)) + ((0 : Int32) * (p2 + (8 : Int32))))), .val (.int ((p1 + (8 : Int32)) + (p0 * (p2 + (8 : Int32))))), .val (.int ((p1 + (8 : Int32)) + ((p0 + (1 : Int32)) * (p2 + (8 : Int32))))), .val (.int (((p1 + p3) + (8 : Int32)) + (p0 * (p2 + (8 : Int32))))), .val (.int (p2 + (8 : Int32))), .val (.int (1 : Int32)), .val (.int (1 : Int32)), .val (.int (1 : Int32)), .val (.int (1 : Int32)), .unset] [(.int (1 : Int32))])) _
    refine XS.goto X5.here hx rfl (pc0 := 120) (pc' := 124) rfl (hb hby at_120) (by decide) (by decide) ?_
    show Steps p.tables e below (T5.setTop (mkF m 124 #[.val (.int p0), .val (.int p1), .val (.int p2), .val (.int p3), .val (.int ((p1 + (8 : Int32)) + ((0 : Int32) * (p2 + (8 : Int32))))), .val (.int ((p1 + (8 : Int32)) + (p0 * (p2 + (8 : Int32))))), .val (.int ((p1 + (8 : Int32)) + ((p0 + (1 : Int32)) * (p2 + (8 : Int32))))), .val (.int (((p1 + p3) + (8 : Int32)) + (p0 * (p2 + (8 : Int32))))), .val (.int (p2 + (8 : Int32))), .val (.int (1 : Int32)), .val (.int (1 : Int32)), .val (.int (1 : Int32)), .val (.int (1 : Int32)), .unset] [(.int (1 : Int32))])) _
    refine XS.istore X5.here hx rfl (hb hby at_124) rfl (l' := #[.val (.int p0), .val (.int p1), .val (.int p2), .val (.int p3), .val (.int ((p1 + (8 : Int32)) + ((0 : Int32) * (p2 + (8 : Int32))))), .val (.int ((p1 + (8 : Int32)) + (p0 * (p2 + (8 : Int32))))), .val (.int ((p1 + (8 : Int32)) + ((p0 + (1 : Int32)) * (p2 + (8 : Int32))))), .val (.int (((p1 + p3) + (8 : Int32)) + (p0 * (p2 + (8 : Int32))))), .val (.int (p2 + (8 : Int32))), .val (.int (1 : Int32)), .val (.int (1 : Int32)), .val (.int (1 : Int32)), .val (.int (1 : Int32)), .val (.int (1 : Int32))]) rfl ?_
    show Steps p.tables e below (T5.setTop (mkF m 126 #[.val (.int p0), .val (.int p1), .val (.int p2), .val (.int p3), .val (.int ((p1 + (8 : Int32)) + ((0 : Int32) * (p2 + (8 : Int32))))), .val (.int ((p1 + (8 : Int32)) + (p0 * (p2 + (8 : Int32))))), .val (.int ((p1 + (8 : Int32)) + ((p0 + (1 : Int32)) * (p2 + (8 : Int32))))), .val (.int (((p1 + p3) + (8 : Int32)) + (p0 * (p2 + (8 : Int32))))), .val (.int (p2 + (8 : Int32))), .val (.int (1 : Int32)), .val (.int (1 : Int32)), .val (.int (1 : Int32)), .val (.int (1 : Int32)), .val (.int (1 : Int32))] [])) _
    refine XS.iload X5.here hx rfl (hb hby at_126) rfl ?_
    show Steps p.tables e below (T5.setTop (mkF m 128 #[.val (.int p0), .val (.int p1), .val (.int p2), .val (.int p3), .val (.int ((p1 + (8 : Int32)) + ((0 : Int32) * (p2 + (8 : Int32))))), .val (.int ((p1 + (8 : Int32)) + (p0 * (p2 + (8 : Int32))))), .val (.int ((p1 + (8 : Int32)) + ((p0 + (1 : Int32)) * (p2 + (8 : Int32))))), .val (.int (((p1 + p3) + (8 : Int32)) + (p0 * (p2 + (8 : Int32))))), .val (.int (p2 + (8 : Int32))), .val (.int (1 : Int32)), .val (.int (1 : Int32)), .val (.int (1 : Int32)), .val (.int (1 : Int32)), .val (.int (1 : Int32))] [(.int (1 : Int32))])) _
    refine XS.ifNo X5.here hx rfl (hb hby at_128) rfl ((if0 _ _).trans (feq (by decide : ¬ ((1 : Int32) = (0 : Int32)))).1) ?_
    show Steps p.tables e below (T5.setTop (mkF m 131 #[.val (.int p0), .val (.int p1), .val (.int p2), .val (.int p3), .val (.int ((p1 + (8 : Int32)) + ((0 : Int32) * (p2 + (8 : Int32))))), .val (.int ((p1 + (8 : Int32)) + (p0 * (p2 + (8 : Int32))))), .val (.int ((p1 + (8 : Int32)) + ((p0 + (1 : Int32)) * (p2 + (8 : Int32))))), .val (.int (((p1 + p3) + (8 : Int32)) + (p0 * (p2 + (8 : Int32))))), .val (.int (p2 + (8 : Int32))), .val (.int (1 : Int32)), .val (.int (1 : Int32)), .val (.int (1 : Int32)), .val (.int (1 : Int32)), .val (.int (1 : Int32))] [])) _
    refine XS.iload X5.here hx rfl (hb hby at_131) rfl ?_
    show Steps p.tables e below (T5.setTop (mkF m 133 #[.val (.int p0), .val (.int p1), .val (.int p2), .val (.int p3), .val (.int ((p1 + (8 : Int32)) + ((0 : Int32) * (p2 + (8 : Int32))))), .val (.int ((p1 + (8 : Int32)) + (p0 * (p2 + (8 : Int32))))), .val (.int ((p1 + (8 : Int32)) + ((p0 + (1 : Int32)) * (p2 + (8 : Int32))))), .val (.int (((p1 + p3) + (8 : Int32)) + (p0 * (p2 + (8 : Int32))))), .val (.int (p2 + (8 : Int32))), .val (.int (1 : Int32)), .val (.int (1 : Int32)), .val (.int (1 : Int32)), .val (.int (1 : Int32)), .val (.int (1 : Int32))] [(.int (1 : Int32))])) _
    refine XS.ifNo X5.here hx rfl (hb hby at_133) rfl ((if0 _ _).trans (feq (by decide : ¬ ((1 : Int32) = (0 : Int32)))).1) ?_
    show Steps p.tables e below (T5.setTop (mkF m 136 #[.val (.int p0), .val (.int p1), .val (.int p2), .val (.int p3), .val (.int ((p1 + (8 : Int32)) + ((0 : Int32) * (p2 + (8 : Int32))))), .val (.int ((p1 + (8 : Int32)) + (p0 * (p2 + (8 : Int32))))), .val (.int ((p1 + (8 : Int32)) + ((p0 + (1 : Int32)) * (p2 + (8 : Int32))))), .val (.int (((p1 + p3) + (8 : Int32)) + (p0 * (p2 + (8 : Int32))))), .val (.int (p2 + (8 : Int32))), .val (.int (1 : Int32)), .val (.int (1 : Int32)), .val (.int (1 : Int32)), .val (.int (1 : Int32)), .val (.int (1 : Int32))] [])) _
    refine XS.iload X5.here hx rfl (hb hby at_136) rfl ?_
    show Steps p.tables e below (T5.setTop (mkF m 138 #[.val (.int p0), .val (.int p1), .val (.int p2), .val (.int p3), .val (.int ((p1 + (8 : Int32)) + ((0 : Int32) * (p2 + (8 : Int32))))), .val (.int ((p1 + (8 : Int32)) + (p0 * (p2 + (8 : Int32))))), .val (.int ((p1 + (8 : Int32)) + ((p0 + (1 : Int32)) * (p2 + (8 : Int32))))), .val (.int (((p1 + p3) + (8 : Int32)) + (p0 * (p2 + (8 : Int32))))), .val (.int (p2 + (8 : Int32))), .val (.int (1 : Int32)), .val (.int (1 : Int32)), .val (.int (1 : Int32)), .val (.int (1 : Int32)), .val (.int (1 : Int32))] [(.int (1 : Int32))])) _
    refine XS.ifNo X5.here hx rfl (hb hby at_138) rfl ((if0 _ _).trans (feq (by decide : ¬ ((1 : Int32) = (0 : Int32)))).1) ?_
    show Steps p.tables e below (T5.setTop (mkF m 141 #[.val (.int p0), .val (.int p1), .val (.int p2), .val (.int p3), .val (.int ((p1 + (8 : Int32)) + ((0 : Int32) * (p2 + (8 : Int32))))), .val (.int ((p1 + (8 : Int32)) + (p0 * (p2 + (8 : Int32))))), .val (.int ((p1 + (8 : Int32)) + ((p0 + (1 : Int32)) * (p2 + (8 : Int32))))), .val (.int (((p1 + p3) + (8 : Int32)) + (p0 * (p2 + (8 : Int32))))), .val (.int (p2 + (8 : Int32))), .val (.int (1 : Int32)), .val (.int (1 : Int32)), .val (.int (1 : Int32)), .val (.int (1 : Int32)), .val (.int (1 : Int32))] [])) _
    refine XS.iload X5.here hx rfl (hb hby at_141) rfl ?_
    show Steps p.tables e below (T5.setTop (mkF m 143 #[.val (.int p0), .val (.int p1), .val (.int p2), .val (.int p3), .val (.int ((p1 + (8 : Int32)) + ((0 : Int32) * (p2 + (8 : Int32))))), .val (.int ((p1 + (8 : Int32)) + (p0 * (p2 + (8 : Int32))))), .val (.int ((p1 + (8 : Int32)) + ((p0 + (1 : Int32)) * (p2 + (8 : Int32))))), .val (.int (((p1 + p3) + (8 : Int32)) + (p0 * (p2 + (8 : Int32))))), .val (.int (p2 + (8 : Int32))), .val (.int (1 : Int32)), .val (.int (1 : Int32)), .val (.int (1 : Int32)), .val (.int (1 : Int32)), .val (.int (1 : Int32))] [(.int (1 : Int32))])) _
    refine XS.ifNo X5.here hx rfl (hb hby at_143) rfl ((if0 _ _).trans (feq (by decide : ¬ ((1 : Int32) = (0 : Int32)))).1) ?_
    show Steps p.tables e below (T5.setTop (mkF m 146 #[.val (.int p0), .val (.int p1), .val (.int p2), .val (.int p3), .val (.int ((p1 + (8 : Int32)) + ((0 : Int32) * (p2 + (8 : Int32))))), .val (.int ((p1 + (8 : Int32)) + (p0 * (p2 + (8 : Int32))))), .val (.int ((p1 + (8 : Int32)) + ((p0 + (1 : Int32)) * (p2 + (8 : Int32))))), .val (.int (((p1 + p3) + (8 : Int32)) + (p0 * (p2 + (8 : Int32))))), .val (.int (p2 + (8 : Int32))), .val (.int (1 : Int32)), .val (.int (1 : Int32)), .val (.int (1 : Int32)), .val (.int (1 : Int32)), .val (.int (1 : Int32))] [])) _
    refine XS.iload X5.here hx rfl (hb hby at_146) rfl ?_
    show Steps p.tables e below (T5.setTop (mkF m 148 #[.val (.int p0), .val (.int p1), .val (.int p2), .val (.int p3), .val (.int ((p1 + (8 : Int32)) + ((0 : Int32) * (p2 + (8 : Int32))))), .val (.int ((p1 + (8 : Int32)) + (p0 * (p2 + (8 : Int32))))), .val (.int ((p1 + (8 : Int32)) + ((p0 + (1 : Int32)) * (p2 + (8 : Int32))))), .val (.int (((p1 + p3) + (8 : Int32)) + (p0 * (p2 + (8 : Int32))))), .val (.int (p2 + (8 : Int32))), .val (.int (1 : Int32)), .val (.int (1 : Int32)), .val (.int (1 : Int32)), .val (.int (1 : Int32)), .val (.int (1 : Int32))] [(.int (1 : Int32))])) _
    refine XS.ifNo X5.here hx rfl (hb hby at_148) rfl ((if0 _ _).trans (feq (by decide : ¬ ((1 : Int32) = (0 : Int32)))).1) ?_
    show Steps p.tables e below (T5.setTop (mkF m 151 #[.val (.int p0), .val (.int p1), .val (.int p2), .val (.int p3), .val (.int ((p1 + (8 : Int32)) + ((0 : Int32) * (p2 + (8 : Int32))))), .val (.int ((p1 + (8 : Int32)) + (p0 * (p2 + (8 : Int32))))), .val (.int ((p1 + (8 : Int32)) + ((p0 + (1 : Int32)) * (p2 + (8 : Int32))))), .val (.int (((p1 + p3) + (8 : Int32)) + (p0 * (p2 + (8 : Int32))))), .val (.int (p2 + (8 : Int32))), .val (.int (1 : Int32)), .val (.int (1 : Int32)), .val (.int (1 : Int32)), .val (.int (1 : Int32)), .val (.int (1 : Int32))] [])) _
    refine XS.iconst X5.here hx rfl (hb hby at_151) ?_
    show Steps p.tables e below (T5.setTop (mkF m 152 #[.val (.int p0), .val (.int p1), .val (.int p2), .val (.int p3), .val (.int ((p1 + (8 : Int32)) + ((0 : Int32) * (p2 + (8 : Int32))))), .val (.int ((p1 + (8 : Int32)) + (p0 * (p2 + (8 : Int32))))), .val (.int ((p1 + (8 : Int32)) + ((p0 + (1 : Int32)) * (p2 + (8 : Int32))))), .val (.int (((p1 + p3) + (8 : Int32)) + (p0 * (p2 + (8 : Int32))))), .val (.int (p2 + (8 : Int32))), .val (.int (1 : Int32)), .val (.int (1 : Int32)), .val (.int (1 : Int32)), .val (.int (1 : Int32)), .val (.int (1 : Int32))] [(.int (1 : Int32))])) _
    refine XS.goto X5.here hx rfl (pc0 := 152) (pc' := 156) rfl (hb hby at_152) (by decide) (by decide) ?_
    exact k
  obtain ⟨fs, hrq, hrun, hended, hW, hsame⟩ := X5.leave (v := some (.int (1 : Int32))) (fun h => by rw [Bd.returns] at h; cases h)
  refine ⟨_, _, pre6 _ ?_, hrun, hended, _, _, rfl, ?_, ⟨_, rfl⟩, hW, hsame.mono (by decide) (by decide)⟩
  · show Steps p.tables e below (T5.setTop (mkF m 156 #[.val (.int p0), .val (.int p1), .val (.int p2), .val (.int p3), .val (.int ((p1 + (8 : Int32)) + ((0 : Int32) * (p2 + (8 : Int32))))), .val (.int ((p1 + (8 : Int32)) + (p0 * (p2 + (8 : Int32))))), .val (.int ((p1 + (8 : Int32)) + ((p0 + (1 : Int32)) * (p2 + (8 : Int32))))), .val (.int (((p1 + p3) + (8 : Int32)) + (p0 * (p2 + (8 : Int32))))), .val (.int (p2 + (8 : Int32))), .val (.int (1 : Int32)), .val (.int (1 : Int32)), .val (.int (1 : Int32)), .val (.int (1 : Int32)), .val (.int (1 : Int32))] [(.int (1 : Int32))])) _
    exact retN X5 hx (t := .boolean) Bd.returns (by simp) (hb hby at_156) hrq
  · show Q0 Z p0 p1 p2 p3 h0 n0 _ T5.heap _
    rw [e5]
    exact ⟨rfl, N5⟩
set_option maxRecDepth 65536 in
set_option maxHeartbeats 40000000 in
theorem comes_1 {Post : Tables → Env → Array Value → State → Outcome → State → Prop} (hpost : ∀ tb e args s v u, (limb_1_1.after args s (.returned v) u = true ∧ limb_1_2.after args s (.returned v) u = true ∧ True) → FrameEnd s (.returned v) u (Jvm.fieldLocs frame_1_writes args s ++ Jvm.arrayLocs frame_1_arrays args s ++ Jvm.staticLocs frame_1_statics s) 0 0 → Post tb e args s (.returned v) u) :
    ArmFor flags0 classFile x code maxLocals ret World_1 tables_1 room_1 Calls_1 rest_1 Pre_1 Post := by
  intro l hfl _ _ p e ha hc hk s m args below hf hA hF happ hP
  obtain ⟨hcalls, hrest, hpre⟩ := hP
  obtain ⟨-, -, -, hnamed, -, -, -, hat⟩ := (Spec.applies_iff hf).mp happ
  obtain ⟨hg, hn⟩ := and_e (Cond.before_iff.mp (show (Jvm.Cond.and given_1 narrow_1).before args s = true from hpre))
  obtain ⟨gc, g0⟩ := and_e hg
  obtain ⟨ga0, g1⟩ := and_e g0
  obtain ⟨ga1, g2⟩ := and_e g1
  obtain ⟨ga2, g3⟩ := and_e g2
  have ga3 := g3
  obtain ⟨w0, w1, w2, w3, rfl⟩ : ∃ w0 w1 w2 w3 : Value, args = #[w0, w1, w2, w3] := by
    have hs : args.size = 4 := by simpa [Cond.value, given_1] using gc
    obtain ⟨L⟩ := args
    match L, hs with
    | [w0, w1, w2, w3], _ => exact ⟨w0, w1, w2, w3, rfl⟩
  have hw := fun d (hd : d ∈ tables_1) => atoms_spec (ws := Jvm.Cond.code x code maxLocals ret :: tables_1) hat d (List.mem_cons_of_mem _ hd)
  have hfit : Fit s := fun {y c} hc i hi => by
    obtain ⟨ha, rfl⟩ := Array.getElem?_eq_some_iff.mp hc
    have q := List.all_eq_true.mp ((Array.all_eq_true_iff_forall_mem.mp hF) _ (Array.getElem_mem ha)) i (List.mem_range.mpr hi)
    simpa [Array.getElem?_eq_getElem hi] using q
  obtain ⟨i0, ei0⟩ := is_v ga0
  obtain rfl : w0 = (.int i0) := Option.some.inj ei0
  obtain ⟨i1, ei1⟩ := is_v ga1
  obtain rfl : w1 = (.int i1) := Option.some.inj ei1
  obtain ⟨i2, ei2⟩ := is_v ga2
  obtain rfl : w2 = (.int i2) := Option.some.inj ei2
  obtain ⟨i3, ei3⟩ := is_v ga3
  obtain rfl : w3 = (.int i3) := Option.some.inj ei3
  obtain ⟨n, o, h1, h2, h3, _, L, rfl, ⟨rfl, N⟩, hq⟩ := rm0 l s _ hw tables_1 i0 i1 i2 i3  s.heap s.heap.size (Nat.le_refl _)  p e ha hc hk s m _ below hf ((Spec.applies_iff_loose hf).mp happ).1 ⟨rfl, State.Warmed39.refl s, rfl⟩ trivial
  refine ⟨n, _, h1, h2, h3, hpost _ _ _ _ _ _ ⟨Cond.after_iff.mpr rfl, Cond.after_iff.mpr (eq_i res_at (Term.int_eval (1)) rfl), trivial⟩ ⟨hq.1, hq.2.1, (hq.2.2.sift fun y hy => Or.inr (N y hy)).mono (by decide) (by decide)⟩⟩
theorem main_1_1 : Claimed_1_1 := comes_1 fun _ _ _ _ _ _ h hF => ⟨h.1, hF⟩
theorem main_1_2 : Claimed_1_2 := comes_1 fun _ _ _ _ _ _ h hF => ⟨h.2.1, hF⟩
end Jvm.Pilot.@@N@@
namespace Jvm.Pilot.@@N@@
open Jvm Jvm.ClassFile Sem Op Lib Jvm.Free Jvm.Stand Jvm.Pilot.@@N@@.Jvm.D
/-! MADE BY PROGRAM (witnessworld.py) out of the Statement's table words and the real class files: 7 classes; the members and pool entries that the words name. The judged class is class 1, her method 1. -/
namespace start1
open Jvm.ClassFile
def u (s : String) : CpInfo := .utf8 (stringToUtf16 s)
/-- a pool by its gaps: so many unusable entries, then the entry; so many at the end -/
def gap : Nat → List CpInfo → List CpInfo
  | 0, r => r
  | n + 1, r => .unusable :: gap n r
def poolList (es : List (Nat × CpInfo)) (last : Nat) : List CpInfo := es.foldr (fun e r => gap e.1 (e.2 :: r)) (gap last [])
def pool (es : List (Nat × CpInfo)) (last : Nat) : Array CpInfo := ⟨poolList es last⟩
def fileOf (pool : Array CpInfo) (this : Nat) (attrs : Array Attribute := #[]) (ms : Array MethodInfo := #[]) (fl : Nat := 33) (sup : Nat := 0) (ifs : Array Nat := #[]) (fds : Array FieldInfo := #[]) : ClassFile where
  minorVersion := 0
  majorVersion := 65
  constantPool := pool
  accessFlags := fl
  thisClass := this
  superClass := sup
  interfaces := ifs
  fields := fds
  methods := ms
  attributes := attrs
def plain (name : String) (sup : Option ClassId) : Class where
  name := name
  kind := .ordinary
  loader := none
  accessFlags := 33
  super := sup
  interfaces := #[]
  cf := none
  fields := #[]
  methods := #[]
  instanceTypes := #[]
  staticTypes := #[]
  resolved := #[]
  callSites := []
  init := .initialized
  statics := none
  mirror := none

def pool0 : Array CpInfo := pool [(5, u "<init>"), (0, u "()V"), (1, .class_ 10), (1, u "java/lang/Object")] 113

def k0m0 : Method := { name := "<init>", desc := "()V", sig := { parameters := [], returnType := none }, accessFlags := 1, code := none }
/-- java/lang/Object -/
def k0 : Class := { plain "java/lang/Object" none with
  accessFlags := 33
  interfaces := #[]
  cf := some (fileOf pool0 8 #[] #[{ accessFlags := 1, nameIndex := 5, descriptorIndex := 6, attributes := #[] }] 33 0 #[] #[])
  fields := #[]
  methods := #[k0m0]
  instanceTypes := #[]
  staticTypes := #[]
  resolved := Array.replicate 124 none
  statics := none }

def pool1 : Array CpInfo := pool [(2, .class_ 4), (1, u "java/lang/Object"), (0, u "<init>"), (0, u "()V"), (0, .methodref 8 9), (0, .class_ 10), (0, .nameAndType 11 12), (0, u "com/example/libthrottle/libthrottle/stat/Cells"), (0, u "rowOf"), (0, u "(III)I"), (0, .methodref 8 14), (0, .nameAndType 15 16), (0, u "rowLength"), (0, u "(I)I"), (0, .class_ 18), (0, u "com/example/libthrottle/libthrottle/stat/CellsRowOfPinLaw"), (2, u "law"), (0, u "(IIII)Z")] 3

def k1m0 : Method := { name := "<init>", desc := "()V", sig := { parameters := [], returnType := none }, accessFlags := 2, code := none }
def k1c1 : Code := { maxStack := 3, maxLocals := 14, code := code, exceptionTable := #[], attributes := #[] }
def k1m1 : Method := { name := "law", desc := "(IIII)Z", sig := { parameters := [.int, .int, .int, .int], returnType := some .boolean }, accessFlags := 9, code := some k1c1 }
/-- com/example/libthrottle/libthrottle/stat/CellsRowOfPinLaw -/
def k1 : Class := { plain "com/example/libthrottle/libthrottle/stat/CellsRowOfPinLaw" (some 0) with
  accessFlags := 49
  interfaces := #[]
  cf := some (fileOf pool1 17 #[] #[{ accessFlags := 2, nameIndex := 5, descriptorIndex := 6, attributes := #[] }, { accessFlags := 9, nameIndex := 21, descriptorIndex := 22, attributes := #[] }] 49 2 #[] #[])
  fields := #[]
  methods := #[k1m0, k1m1]
  instanceTypes := #[]
  staticTypes := #[]
  resolved := Array.replicate 26 none
  statics := none }

def pool2 : Array CpInfo := pool [(2, .class_ 4), (1, u "java/lang/Object"), (0, u "<init>"), (0, u "()V"), (0, .class_ 8), (0, u "com/example/libthrottle/libthrottle/stat/Cells"), (5, u "I"), (0, .methodref 7 16), (0, .nameAndType 17 18), (0, u "rowLength"), (0, u "(I)I"), (2, u "CELL"), (0, u "Ljava/lang/invoke/VarHandle;"), (51, u "PAD"), (6, u "rowOf"), (0, u "(III)I")] 14

def k2m0 : Method := { name := "<init>", desc := "()V", sig := { parameters := [], returnType := none }, accessFlags := 2, code := none }
def k2c1 : Code := { maxStack := 3, maxLocals := 3, code := prog_45_method_3_code, exceptionTable := #[], attributes := #[] }
def k2m1 : Method := { name := "rowOf", desc := "(III)I", sig := { parameters := [.int, .int, .int], returnType := some .int }, accessFlags := 8, code := some k2c1 }
def k2c2 : Code := { maxStack := 2, maxLocals := 1, code := prog_45_method_4_code, exceptionTable := #[], attributes := #[] }
def k2m2 : Method := { name := "rowLength", desc := "(I)I", sig := { parameters := [.int], returnType := some .int }, accessFlags := 8, code := some k2c2 }
/-- com/example/libthrottle/libthrottle/stat/Cells -/
def k2 : Class := { plain "com/example/libthrottle/libthrottle/stat/Cells" (some 0) with
  accessFlags := 32
  interfaces := #[]
  cf := some (fileOf pool2 7 #[] #[{ accessFlags := 2, nameIndex := 5, descriptorIndex := 6, attributes := #[] }, { accessFlags := 8, nameIndex := 81, descriptorIndex := 82, attributes := #[] }, { accessFlags := 8, nameIndex := 17, descriptorIndex := 18, attributes := #[] }] 32 2 #[] #[{ accessFlags := 26, nameIndex := 21, descriptorIndex := 22, attributes := #[] }, { accessFlags := 26, nameIndex := 74, descriptorIndex := 14, attributes := #[] }])
  fields := #[{ name := "CELL", type := (.object "java/lang/invoke/VarHandle"), accessFlags := 26, slot := 0, constantValue := 0 }, { name := "PAD", type := .int, accessFlags := 26, slot := 1, constantValue := 0 }]
  methods := #[k2m0, k2m1, k2m2]
  instanceTypes := #[]
  staticTypes := #[(.object "java/lang/invoke/VarHandle"), .int]
  resolved := Array.replicate 97 none
  statics := none }

def pool3 : Array CpInfo := pool [(1, u "java/lang/Cloneable"), (0, .class_ 1), (0, u "java/lang/Object"), (0, .class_ 3)] 3

/-- java/lang/Cloneable -/
def k3 : Class := { plain "java/lang/Cloneable" (some 0) with
  accessFlags := 1537
  interfaces := #[]
  cf := some (fileOf pool3 2 #[] #[] 1537 4 #[] #[])
  fields := #[]
  methods := #[]
  instanceTypes := #[]
  staticTypes := #[]
  resolved := Array.replicate 8 none
  statics := none }

def pool4 : Array CpInfo := pool [(1, u "java/io/Serializable"), (0, .class_ 1), (0, u "java/lang/Object"), (0, .class_ 3)] 3

/-- java/io/Serializable -/
def k4 : Class := { plain "java/io/Serializable" (some 0) with
  accessFlags := 1537
  interfaces := #[]
  cf := some (fileOf pool4 2 #[] #[] 1537 4 #[] #[])
  fields := #[]
  methods := #[]
  instanceTypes := #[]
  staticTypes := #[]
  resolved := Array.replicate 8 none
  statics := none }

/-- the primitive byte -/
def k5 : Class := { plain "byte" none with kind := .primitive 'B', accessFlags := 0x411 }
/-- [B -/
def k6 : Class := { plain "[B" (some 0) with kind := .array 5 .byte, interfaces := #[3, 4], accessFlags := 1041 }

def heap : Heap := #[]
def classes : Array Class := #[k0, k1, k2, k3, k4, k5, k6]
def interned : List (Array UInt16 × Addr) := []
def slotsUsed : Nat := 0
def theMethod : MethodId := ⟨1, 1⟩
def args0 : Array Value := #[.int 3, .int 2, .int 5, .int 1]
def aboutOver (below : List Frame) : State where
  vm := { classes := classes, interned := interned.toArray }
  heap := heap
  slotsUsed := slotsUsed
  threads := #[{ frames := .invoking theMethod args0 :: below }]
def below0 : List Frame := [.native { method := ⟨0, 0⟩, args := #[] }]
def about1 : State := aboutOver below0
def p0 : Program := .bare "" "" ""
def e0 : Env := launch0.env 0 0 0
theorem w_frames : about1.frames = Frame.invoking theMethod args0 :: below0 := rfl
set_option maxRecDepth 65536 in
theorem w_args : argsFit about1.vm theMethod args0 = true := by decide +kernel
set_option maxRecDepth 65536 in
theorem w_heap : heapFits about1 = true := by decide +kernel
set_option maxRecDepth 65536 in
theorem w_runnable : about1.curStatus? = some .runnable := by decide +kernel
set_option maxRecDepth 65536 in
theorem w_alone : about1.alone = true := by decide +kernel
set_option maxRecDepth 65536 in
theorem w_named : about1.methodNamed? x = some theMethod := by decide +kernel
set_option maxRecDepth 65536 in
theorem w_hears : about1.hears theMethod below0 = true := by decide +kernel
set_option maxRecDepth 65536 in
theorem w_ripe : about1.ripe theMethod args0 below0 = true := by decide +kernel
theorem w_running : about1.status = .running := rfl
set_option maxRecDepth 65536 in
theorem w_room : about1.hasRoom e0.platform room_1 = true :=
  launch0.hasRoom_least _ room_1 (by decide +kernel) (by decide +kernel) (by decide +kernel) (by decide +kernel) (by decide +kernel) (by decide +kernel)
theorem allAtoms_all (ts : List Jvm.Cond) (a : Array Jvm.Value) (st : Jvm.State) : (allAtoms ts).before a st = ts.all (fun c => c.before a st) := by
  induction ts with
  | nil => rfl
  | cons c t ih =>
    show (Jvm.Cond.and c (allAtoms t)).before a st = _
    rw [Jvm.Cond.before_and, ih, List.all_cons]
def words1 : List Jvm.Cond := Jvm.Cond.code x code maxLocals ret :: tables_1
/-- a 'code' word, met by the world's own term for the bytes: nothing is compared byte by byte -/
theorem code_word {y : MethodName} {bytes : ByteArray} {mx : Nat} {rt : Option FieldType} {a : Array Value} {s : State} {m : MethodId} {meth : Method} {c : Code} (h1 : s.methodNamed? y = some m) (h2 : s.vm.method? m = some meth) (h3 : meth.code = some c) (h4 : c.code = bytes)
    (h5 : (c.maxLocals == mx && c.exceptionTable.isEmpty && decide (c.maxStack ≤ mostOperands) && decide (meth.sig.returnType = rt) && !meth.locks && decide (parseMethodDescriptor y.desc = some meth.sig)) = true) : (Jvm.Cond.code y bytes mx rt).before a s = true := by
  simp only [Bool.and_eq_true, beq_iff_eq, Bool.not_eq_true', decide_eq_true_eq] at h5
  obtain ⟨⟨⟨⟨⟨g1, g2⟩, g3⟩, g4⟩, g5⟩, g6⟩ := h5
  simp [Cond.before, Cond.holds, Cond.value, h1, h2, h3, h4, g1, g2, g3, g4, g5, g6]
def isCode : Jvm.Cond → Bool
  | .code _ _ _ _ => true
  | _ => false
theorem all_split {L : List Jvm.Cond} {P : Jvm.Cond → Bool} (h1 : L.all (fun c => isCode c || P c) = true) (h2 : ∀ c ∈ L.filter isCode, P c = true) : L.all P = true := by
  refine List.all_eq_true.mpr fun c hc => ?_
  have h := List.all_eq_true.mp h1 c hc
  rcases Bool.eq_false_or_eq_true (isCode c) with hi | hi
  · exact h2 c (List.mem_filter.mpr ⟨hc, hi⟩)
  · simpa [hi] using h
set_option maxRecDepth 65536 in
theorem w_c0 : (Jvm.Cond.code x code maxLocals ret).before args0 about1 = true := code_word (m := ⟨1, 1⟩) (meth := k1m1) (c := k1c1) (by decide +kernel) rfl rfl rfl (by decide +kernel)
set_option maxRecDepth 65536 in
theorem w_c1 : (Jvm.Cond.code ({ cls := "com/example/libthrottle/libthrottle/stat/Cells", name := "rowOf", desc := "(III)I" } : Jvm.MethodName) prog_45_method_3_code (3 : Nat) (Option.some Jvm.ClassFile.FieldType.int)).before args0 about1 = true := code_word (m := ⟨2, 1⟩) (meth := k2m1) (c := k2c1) (by decide +kernel) rfl rfl rfl (by decide +kernel)
set_option maxRecDepth 65536 in
theorem w_c2 : (Jvm.Cond.code ({ cls := "com/example/libthrottle/libthrottle/stat/Cells", name := "rowLength", desc := "(I)I" } : Jvm.MethodName) prog_45_method_4_code (1 : Nat) (Option.some Jvm.ClassFile.FieldType.int)).before args0 about1 = true := code_word (m := ⟨2, 2⟩) (meth := k2m2) (c := k2c2) (by decide +kernel) rfl rfl rfl (by decide +kernel)
def codes1 : List Jvm.Cond := [Jvm.Cond.code x code maxLocals ret, Jvm.Cond.code ({ cls := "com/example/libthrottle/libthrottle/stat/Cells", name := "rowOf", desc := "(III)I" } : Jvm.MethodName) prog_45_method_3_code (3 : Nat) (Option.some Jvm.ClassFile.FieldType.int), Jvm.Cond.code ({ cls := "com/example/libthrottle/libthrottle/stat/Cells", name := "rowLength", desc := "(I)I" } : Jvm.MethodName) prog_45_method_4_code (1 : Nat) (Option.some Jvm.ClassFile.FieldType.int)]
set_option maxRecDepth 65536 in
theorem codes_eq : words1.filter isCode = codes1 := rfl
theorem w_codes : ∀ c ∈ words1.filter isCode, c.before args0 about1 = true := by
  rw [codes_eq]
  intro c hc
  simp only [codes1, List.mem_cons, List.not_mem_nil, or_false] at hc
  rcases hc with rfl | rfl | rfl
  · exact w_c0
  · exact w_c1
  · exact w_c2
set_option maxRecDepth 65536 in
theorem w_t1 : words1.all (fun c => isCode c || c.before args0 about1) = true := by decide +kernel
theorem w_tables : (allAtoms (Jvm.Cond.code x code maxLocals ret :: tables_1)).before args0 about1 = true := by
  rw [allAtoms_all]
  show words1.all (fun c => c.before args0 about1) = true
  refine all_split ?_ w_codes
  rw [w_t1]
set_option maxRecDepth 65536 in
theorem w_case : (Jvm.Cond.and given_1 narrow_1).before args0 about1 = true := by decide +kernel
theorem w_applies : (headSpec (Jvm.Cond.code x code maxLocals ret :: tables_1) room_1).applies x e0.platform about1 = true :=
  (Spec.applies_iff w_frames).mpr ⟨w_running, w_runnable, w_alone, w_named, w_hears, w_ripe, w_room, w_tables⟩
theorem atStart : AtStart classFile x code maxLocals ret World_1 tables_1 room_1 Calls_1 rest_1 Pre_1 launch0 p0 e0 about1 theMethod args0 below0 :=
  ⟨lists_1, trivial, launch0.admits_env _ _ _, launch0.least_env, fairChoices_fair.cas, fairChoices_fair.clock, w_frames, w_args, w_heap, w_applies, trivial, trivial, w_case⟩
end start1
theorem witness_1 : WitnessClaimed_1 := ⟨start1.p0, start1.e0, start1.about1, start1.theMethod, start1.args0, start1.below0, start1.atStart⟩
end Jvm.Pilot.@@N@@
