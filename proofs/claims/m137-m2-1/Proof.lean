import JvmDerived
import JvmDerived.Pilot.@@N@@Statement
import JvmDerived.Pilot.@@N@@Code
set_option linter.unusedVariables false
set_option linter.unusedSimpArgs false
namespace Jvm.RoadKit
open Sem ClassFile Op Lib Jvm.Stand Jvm.Free Jvm.LawKit
section New
variable {p : Program} {l : Launch} {e : Env} {R : Room} {s : State} {m : MethodId} {args : Array Value} {below : List Frame} {meth : Method} {c : Code} {T : State} {locs : List Loc} {cells slots : Nat}
theorem retI (X : Stand p l e R s m args below meth c T locs cells slots) (hx : p.tables.exec = Jvm.exec) {pc : Nat} {Ls : Array Slot} {z : Int32} {rest : List Value} (hret : meth.sig.returnType = some .int) (hd : decode c.code pc = .ok (.ireturn, 1)) {fs : List Frame}
    (hl : ∀ (f : JFrame) (acts : List Action), f.method = m → f.locked = none → f.entered = [] → (doReturn e (T.setTop f) acts (some (.int z))).1 = T.setFrames fs) : Steps p.tables e below (T.setTop (mkF m pc Ls (.int z :: rest))) (T.setFrames fs) := by
  have hm' : T.vm.method? m = some meth := X.method'
  have hn : narrow .int (.int z) = .int z := rfl
  show Steps p.tables e below (T.setTop { method := m, pc := pc, locals := Ls, stack := _ :: rest, locked := none }) _
  jvm_step X.here [X.here.top, hx, hd, hm', hret, hn]
  first | (intro acts; rw [hl _ acts rfl rfl rfl]) | rw [hl _ _ rfl rfl rfl]
  exact Steps.refl _
theorem own_retN (X : Stand p l e R s m args below meth c T locs cells slots) (hx : p.tables.exec = Jvm.exec) {pc : Nat} {Ls : Array Slot} {z z' : Int32} {t : FieldType} {rest : List Value} (hret : meth.sig.returnType = some t) (ht : t = .boolean ∨ t = .byte ∨ t = .char ∨ t = .short)
    (hd : decode c.code pc = .ok (.ireturn, 1)) (hz : nar t z = z') {fs : List Frame} (hl : ∀ (f : JFrame) (acts : List Action), f.method = m → f.locked = none → f.entered = [] → (doReturn e (T.setTop f) acts (some (.int z'))).1 = T.setFrames fs) :
    Steps p.tables e below (T.setTop (mkF m pc Ls (.int z :: rest))) (T.setFrames fs) := by
  subst hz; exact retN X hx hret ht hd hl
end New
theorem own_nar_if {P : Prop} [Decidable P] {a b : Int32} (ha : nar .boolean a = a) (hb : nar .boolean b = b) : nar .boolean (if P then a else b) = if P then a else b := by
  split
  · exact ha
  · exact hb
theorem own_b_lt (x y : Int32) : (if if_icmp.holds .lt x y = true then (0 : Int32) else 1) = if x < y then 0 else 1 := by
  by_cases h : x < y
  · rw [(tlt h).1]; simp [h]
  · rw [(flt h).1]; simp [h]
theorem own_b_ge (x y : Int32) : (if if_icmp.holds .ge x y = true then (0 : Int32) else 1) = if x < y then 1 else 0 := by
  by_cases h : x < y
  · rw [(tlt h).2.1]; simp [h]
  · rw [(flt h).2.1]; simp [h]
theorem own_b_gt (x y : Int32) : (if if_icmp.holds .gt x y = true then (0 : Int32) else 1) = if y < x then 0 else 1 := by
  by_cases h : y < x
  · rw [(tlt h).2.2.1]; simp [h]
  · rw [(flt h).2.2.1]; simp [h]
theorem own_b_le (x y : Int32) : (if if_icmp.holds .le x y = true then (0 : Int32) else 1) = if y < x then 1 else 0 := by
  by_cases h : y < x
  · rw [(tlt h).2.2.2]; simp [h]
  · rw [(flt h).2.2.2]; simp [h]
theorem own_b_eq (x y : Int32) : (if if_icmp.holds .eq x y = true then (0 : Int32) else 1) = if x = y then 0 else 1 := by
  by_cases h : x = y
  · rw [(teq h).1]; simp [h]
  · rw [(feq h).1]; simp [h]
theorem own_b_ne (x y : Int32) : (if if_icmp.holds .ne x y = true then (0 : Int32) else 1) = if x = y then 1 else 0 := by
  by_cases h : x = y
  · rw [(teq h).2]; simp [h]
  · rw [(feq h).2]; simp [h]
theorem own_boolC {tb : Tables} [Ours tb] {e : Env} {below : List Frame} {T target : State} {m : MethodId} {c : Code} {g : JFrame} (h : At T m c below) (hx : tb.exec = Jvm.exec) (hg : g.method = m) {cd : ClassFile.Cond} {x y z : Int32} {rest : List Value}
    (hd0 : decode c.code g.pc = .ok (.if_icmp cd 7, 3)) (hd1 : decode c.code (g.pc + 3) = .ok (.iconst 1, 1)) (hd2 : decode c.code (g.pc + 4) = .ok (.goto 4, 3)) (hd3 : decode c.code (g.pc + 7) = .ok (.iconst 0, 1)) (hs : g.stack = .int y :: .int x :: rest)
    (hz : (if if_icmp.holds cd x y = true then (0 : Int32) else 1) = z) (hr : Steps tb e below (T.setTop { g with pc := g.pc + 8, stack := .int z :: rest }) target) : Steps tb e below (T.setTop g) target := by
  by_cases hc : if_icmp.holds cd x y = true
  · rw [if_pos hc] at hz; subst hz
    exact XS.icmpYes h hx hg (pc0 := g.pc) (pc' := g.pc + 7) rfl hd0 hs hc (by omega) (by omega) (XS.iconst h hx hg hd3 hr)
  · rw [if_neg hc] at hz; subst hz
    exact XS.icmpNo h hx hg hd0 hs (by simpa using hc) (XS.iconst h hx hg hd1 (XS.goto h hx hg (pc0 := g.pc + 4) (pc' := g.pc + 8) rfl hd2 (by omega) (by omega) hr))
theorem own_boolI {tb : Tables} [Ours tb] {e : Env} {below : List Frame} {T target : State} {m : MethodId} {c : Code} {g : JFrame} (h : At T m c below) (hx : tb.exec = Jvm.exec) (hg : g.method = m) {cd : ClassFile.Cond} {x z : Int32} {rest : List Value}
    (hd0 : decode c.code g.pc = .ok (.ifCond cd 7, 3)) (hd1 : decode c.code (g.pc + 3) = .ok (.iconst 1, 1)) (hd2 : decode c.code (g.pc + 4) = .ok (.goto 4, 3)) (hd3 : decode c.code (g.pc + 7) = .ok (.iconst 0, 1)) (hs : g.stack = .int x :: rest)
    (hz : (if if_icmp.holds cd x 0 = true then (0 : Int32) else 1) = z) (hr : Steps tb e below (T.setTop { g with pc := g.pc + 8, stack := .int z :: rest }) target) : Steps tb e below (T.setTop g) target := by
  by_cases hc : if_icmp.holds cd x 0 = true
  · rw [if_pos hc] at hz; subst hz
    exact XS.ifYes h hx hg (pc0 := g.pc) (pc' := g.pc + 7) rfl hd0 hs ((if0 _ _).trans hc) (by omega) (by omega) (XS.iconst h hx hg hd3 hr)
  · rw [if_neg hc] at hz; subst hz
    exact XS.ifNo h hx hg hd0 hs ((if0 _ _).trans (by simpa using hc)) (XS.iconst h hx hg hd1 (XS.goto h hx hg (pc0 := g.pc + 4) (pc' := g.pc + 8) rfl hd2 (by omega) (by omega) hr))
theorem own_selects_private {y : MethodName} {s : State} {args : Array Value} {n : Nat} (hins : (Cond.instantiable y.cls n).before args s = true) (hpriv : (Cond.privateMethod y).before args s = true) (hinst : (Cond.instanceMethod y).before args s = true) (hy : y.cls ≠ "java/lang/invoke/MethodHandle" ∧ y.cls ≠ "java/lang/invoke/VarHandle" := by decide) :
    (Cond.selects y.cls y y).before args s = true := by
  obtain ⟨c, k, hc, hk, -, hniab, -, -⟩ := Cond.instantiable_spec hins
  have hni : k.isInterface = false := (Bool.or_eq_false_iff.mp hniab).1
  obtain ⟨mk, methM, hnamed, hmethM, -, -⟩ := Cond.instanceMethod_spec hinst
  have hfound : s.methodFound? y.cls y.name y.desc = some mk := State.methodFound?_of_named hnamed hy
  have hcls : mk.cls = c := Option.some.inj ((findClass_of_methodNamed hnamed).symm.trans hc)
  have hsel : selectMethod {} s.vm c mk = .method mk := selectMethod_private hmethM (Cond.privateMethod_at hpriv mk methM hnamed hmethM)
  simp only [Cond.before, Cond.holds, Cond.value, hc, hfound, hnamed, hsel, hcls, hk]
  simp; exact hni
theorem own_sta_keep {Z : State} {h h' : Heap} {C n d : String} {v : Value} {ws : List Addr} (F : Sta Z h C n d v) (K : Keep h h' ws) (q : ∀ x ∈ ws, ∀ cell : Cell, h[x]? = some cell → cell.vm.isStatics = false) : Sta Z h' C n d v := by
  obtain ⟨cf, i, k, f, st, cell, h1, h2, h3, h4, h5, h6, h7⟩ := F
  refine ⟨cf, i, k, f, st, cell, h1, h2, h3, h4, K.2.1 _ _ h5 (fun hm => ?_), h6, h7⟩
  rw [q _ hm _ h5] at h6; cases h6
theorem own_plain_exa {Z : State} {h : Heap} {a : Addr} {C : String} (F : Exa Z h a C) : ∀ cell : Cell, h[a]? = some cell → cell.vm.isStatics = false := fun cell hc => by
  obtain ⟨c, k, h1, -, -, h4, -⟩ := F
  cases h1.symm.trans hc; exact h4
end Jvm.RoadKit
namespace Jvm.Pilot.@@N@@
open Jvm Jvm.ClassFile Sem Op Lib Jvm.Free Jvm.Stand Jvm.LawKit Jvm.RoadKit Bundle Jvm.Pilot.@@N@@.Jvm.D
theorem own_m3 (a : Int32) : (a &&& (3 : Int32)).toInt = a.toInt % 4 := c_mask a 3 2 (by decide) (by decide)
theorem own_n0 (a : Int32) : ¬ (a &&& (3 : Int32)) < 0 := by
  have := own_m3 a
  rw [Int32.lt_iff_toInt_lt]
  have e1 : (0 : Int32).toInt = 0 := by decide
  omega
theorem own_n3 (a : Int32) : (a &&& (3 : Int32)).toNatClampNeg ≤ 3 := by
  have := own_m3 a
  show (a &&& (3 : Int32)).toInt.toNat ≤ 3
  omega
theorem own_s1 {n : Int32} (h : ¬ ((0 : Int32) < n)) : ¬ ((1 : Int32) < n) := by
  rw [Int32.lt_iff_toInt_lt] at h ⊢
  have e1 : (0 : Int32).toInt = 0 := by decide
  have e2 : (1 : Int32).toInt = 1 := by decide
  omega
theorem own_s2 {n : Int32} (h : ¬ ((1 : Int32) < n)) : ¬ ((2 : Int32) < n) := by
  rw [Int32.lt_iff_toInt_lt] at h ⊢
  have e1 : (1 : Int32).toInt = 1 := by decide
  have e2 : (2 : Int32).toInt = 2 := by decide
  omega
theorem d2_0 : decode jdk_30_method_1_code 0 = .ok (.aload_n 0, 1) := by decide +kernel
theorem d2_1 : decode jdk_30_method_1_code 1 = .ok (.invokespecial 1, 3) := by decide +kernel
theorem d2_4 : decode jdk_30_method_1_code 4 = .ok (.return_, 1) := by decide +kernel
theorem ef_rm2 (m : MethodId) (x0 : Addr) : entryFrame m #[(.ref x0)] 1 = mkF m 0 #[.val (.ref x0)] [] := by first | (simp [entryFrame, mkF, argsToLocals, Value.category]; done) | rfl
theorem pn_0 : plainName "java/lang/Record" = true := by first | (simp [plainName, overriddenIn]; done) | decide +kernel
def Q2 (Z : State) (ob : Addr) (h0 : Heap) (n0 : Nat) (v : Option Value) (h : Heap) (L : List Loc) : Prop := v = none ∧ Fr n0 L ∧ h = h0
set_option maxRecDepth 65536 in
set_option maxHeartbeats 40000000 in
theorem rm2 (l : Launch) (Z : State) (a0 : Array Value) (hw : ∀ d ∈ tables_1, d.before a0 Z = true) (ws : List Jvm.Cond) (ob : Addr) (h0 : Heap) (n0 : Nat) (Z0 : n0 ≤ h0.size)  :
    MetFree l (⟨"java/lang/Record", "<init>", "()V"⟩ : MethodName) (head1 (Jvm.Cond.code (⟨"java/lang/Record", "<init>", "()V"⟩ : MethodName) jdk_30_method_1_code 1 none :: ws) ({ frames := 1, cells := 0, slots := 0, locals := 12 } : Room)) (fun a U => a = #[(.ref ob)] ∧ Z.Warmed39 U.vm ∧ U.heap = h0) (fun _ _ _ _ _ => True) (fun _ U o U' => ∃ v L, o = .returned v ∧ Q2 Z ob h0 n0 v U'.heap L ∧ FrameEnd U o U' L ({ frames := 1, cells := 0, slots := 0, locals := 12 } : Room).cells ({ frames := 1, cells := 0, slots := 0, locals := 12 } : Room).slots) := by
  refine MetFree.of_bodySF (plainFor_of_name pn_0) hisR ?_
  intro p e s0 m args below meth c s₁ Bd hml0 hP hK
  obtain ⟨rfl, hZ, hh⟩ := hP
  have hx := Bd.exec
  have hby := Bd.bytes
  have hml : c.maxLocals = 1 := hml0
  have hown : s0.vm.findClass "java/lang/Record" = some m.cls := findClass_of_methodNamed Bd.named
  have hnm := (name_of_methodNamed Bd.named Bd.method).1
  have X0 : Stand p l e ({ frames := 1, cells := 0, slots := 0, locals := 12 } : Room) s0 m #[(.ref ob)] below meth c s₁ [] 0 0 := Stand.of_body Bd
  have e0 : s₁.heap = h0 := by rw [← hh, Bd.state]; rfl
  have N0 := Fr.nil n0
  have pre0 : ∀ t, Steps p.tables e below (s₁.setTop (mkF m 0 #[.val (.ref ob)] [])) t → Steps p.tables e below (s₁.setTop (entryFrame m #[(.ref ob)] 1)) t := fun t k => castTop (ef_rm2 m ob) k
  obtain ⟨T1, X1, e1, st1⟩ := initO X0 hx hZ hown (hw _ (List.mem_of_getElem? (i := 12) rfl)) (hw _ (List.mem_of_getElem? (i := 13) rfl)) (hw _ (List.mem_of_getElem? (i := 14) rfl)) e0 (g := (mkF m 1 #[.val (.ref ob)] [(.ref ob)])) rfl (by rw [hml]; rfl) rfl (hb hby d2_1) (by decide) (W := 0) (by show 2 * 0 + _ ≤ _; exact Nat.le_of_eq rfl) (by decide)
  have pre2 : ∀ t, Steps p.tables e below (T1.setTop (mkF m 4 #[.val (.ref ob)] [])) t → Steps p.tables e below (s₁.setTop (entryFrame m #[(.ref ob)] 1)) t := fun t k => by
    refine pre0 t ?_
    show Steps p.tables e below (s₁.setTop (mkF m 0 #[.val (.ref ob)] [])) _
    refine XS.aloadN X0.here hx rfl (hb hby d2_0) rfl rfl ?_
    show Steps p.tables e below (s₁.setTop (mkF m 1 #[.val (.ref ob)] [(.ref ob)])) _
    refine st1 _ ?_
    exact k
  obtain ⟨fs, hrq, hrun, hended, hW, hsame⟩ := X1.leave (v := none) (fun _ => rfl)
  refine ⟨_, _, pre2 _ ?_, hrun, hended, _, _, rfl, ?_, ⟨_, rfl⟩, hW, hsame.mono (by decide) (by decide)⟩
  · show Steps p.tables e below (T1.setTop (mkF m 4 #[.val (.ref ob)] [])) _
    exact X1.returnOut hx Bd.returns (hb hby d2_4) hrq
  · show Q2 Z ob h0 n0 _ T1.heap _
    rw [e1]
    exact ⟨rfl, N0, rfl⟩
theorem pd_0 : parseMethodDescriptor "()V" = some ⟨[], none⟩ := by decide +kernel
theorem d1_0 : decode prog_7_method_1_code 0 = .ok (.aload_n 0, 1) := by decide +kernel
theorem d1_1 : decode prog_7_method_1_code 1 = .ok (.invokespecial 1, 3) := by decide +kernel
theorem d1_4 : decode prog_7_method_1_code 4 = .ok (.aload_n 0, 1) := by decide +kernel
theorem d1_5 : decode prog_7_method_1_code 5 = .ok (.aload_n 1, 1) := by decide +kernel
theorem d1_6 : decode prog_7_method_1_code 6 = .ok (.putfield 7, 3) := by decide +kernel
theorem d1_9 : decode prog_7_method_1_code 9 = .ok (.aload_n 0, 1) := by decide +kernel
theorem d1_10 : decode prog_7_method_1_code 10 = .ok (.iload_n 2, 1) := by decide +kernel
theorem d1_11 : decode prog_7_method_1_code 11 = .ok (.putfield 13, 3) := by decide +kernel
theorem d1_14 : decode prog_7_method_1_code 14 = .ok (.return_, 1) := by decide +kernel
theorem ef_rm1 (m : MethodId) (x0 : Addr) (x1 : Addr) (x2 : Int32) : entryFrame m #[(.ref x0), (.ref x1), (.int x2)] 3 = mkF m 0 #[.val (.ref x0), .val (.ref x1), .val (.int x2)] [] := by first | (simp [entryFrame, mkF, argsToLocals, Value.category]; done) | rfl
theorem pn_1 : plainName "com/example/depthwire/depthwire/EncodedFields" = true := by first | (simp [plainName, overriddenIn]; done) | decide +kernel
def Q1 (Z : State) (ob : Addr) (ar : Addr) (sm : Int32) (h0 : Heap) (n0 : Nat) (v : Option Value) (h : Heap) (L : List Loc) : Prop := v = none ∧ Fr n0 L ∧ Keep h0 h [ob] ∧ Exa Z h ob "com/example/depthwire/depthwire/EncodedFields" ∧ Fld Z h ob "com/example/depthwire/depthwire/EncodedFields" "bytes" "[B" (.ref ar)
set_option maxRecDepth 65536 in
set_option maxHeartbeats 40000000 in
theorem rm1 (l : Launch) (Z : State) (a0 : Array Value) (hw : ∀ d ∈ tables_1, d.before a0 Z = true) (ws : List Jvm.Cond) (ob : Addr) (ar : Addr) (sm : Int32) (h0 : Heap) (n0 : Nat) (Z0 : n0 ≤ h0.size) (E_ob : Exa Z h0 ob "com/example/depthwire/depthwire/EncodedFields") (F_bytes : Fld Z h0 ob "com/example/depthwire/depthwire/EncodedFields" "bytes" "[B" .null) (F_sum : Fld Z h0 ob "com/example/depthwire/depthwire/EncodedFields" "sum" "I" (.int (0 : Int32))) (g_ob : n0 ≤ ob) :
    MetFree l (⟨"com/example/depthwire/depthwire/EncodedFields", "<init>", "([BI)V"⟩ : MethodName) (head1 (Jvm.Cond.code (⟨"com/example/depthwire/depthwire/EncodedFields", "<init>", "([BI)V"⟩ : MethodName) prog_7_method_1_code 3 none :: ws) ({ frames := 2, cells := 0, slots := 0, locals := 24 } : Room)) (fun a U => a = #[(.ref ob), (.ref ar), (.int sm)] ∧ Z.Warmed39 U.vm ∧ U.heap = h0) (fun _ _ _ _ _ => True) (fun _ U o U' => ∃ v L, o = .returned v ∧ Q1 Z ob ar sm h0 n0 v U'.heap L ∧ FrameEnd U o U' L ({ frames := 2, cells := 0, slots := 0, locals := 24 } : Room).cells ({ frames := 2, cells := 0, slots := 0, locals := 24 } : Room).slots) := by
  refine MetFree.of_bodySF (plainFor_of_name pn_1) hisR ?_
  intro p e s0 m args below meth c s₁ Bd hml0 hP hK
  obtain ⟨rfl, hZ, hh⟩ := hP
  have hx := Bd.exec
  have hby := Bd.bytes
  have hml : c.maxLocals = 3 := hml0
  have hown : s0.vm.findClass "com/example/depthwire/depthwire/EncodedFields" = some m.cls := findClass_of_methodNamed Bd.named
  have hnm := (name_of_methodNamed Bd.named Bd.method).1
  have X0 : Stand p l e ({ frames := 2, cells := 0, slots := 0, locals := 24 } : Room) s0 m #[(.ref ob), (.ref ar), (.int sm)] below meth c s₁ [] 0 0 := Stand.of_body Bd
  have e0 : s₁.heap = h0 := by rw [← hh, Bd.state]; rfl
  have N0 := Fr.nil n0
  have pre0 : ∀ t, Steps p.tables e below (s₁.setTop (mkF m 0 #[.val (.ref ob), .val (.ref ar), .val (.int sm)] [])) t → Steps p.tables e below (s₁.setTop (entryFrame m #[(.ref ob), (.ref ar), (.int sm)] 3)) t := fun t k => castTop (ef_rm1 m ob ar sm) k
  obtain ⟨_, _, ⟨T1, L1, k1, n1⟩, -, X1, ⟨Lc1, hQ1, l1, y1, z1⟩, st1⟩ := X0.specialBack hx (y := (⟨"java/lang/Record", "<init>", "()V"⟩ : MethodName)) rfl hown (mvT hZ (hw _ (List.mem_of_getElem? (i := 7) rfl))) (mvT hZ (hw _ (List.mem_of_getElem? (i := 8) rfl))) (mvT hZ (hw _ (List.mem_of_getElem? (i := 11) rfl))) (by decide) (backOf (W := 0) (rm2 l Z a0 hw [] ob h0 n0 Z0 ) hZ (hw _ (List.mem_of_getElem? (i := 11) rfl)) (hw _ (List.mem_of_getElem? (i := 10) rfl)) (by decide) (by decide)) (g := (mkF m 1 #[.val (.ref ob), .val (.ref ar), .val (.int sm)] [(.ref ob)])) rfl (by rw [hml]; rfl) (Steps.refl _) (a := ob) (argsL := []) (rest := []) (lenOf pd_0 rfl) rfl (by show 2 * 0 + _ ≤ _; exact Nat.le_of_eq rfl) (hb hby d1_1) (fun _ _ => ⟨rfl, e0, (by decide : 0 + 0 ≤ _), (by decide : 0 + 0 ≤ _)⟩)
  dsimp only [Pt.U, Pt.locs, Pt.cells, Pt.slots] at X1 l1 y1 z1 st1 hQ1
  subst l1 y1 z1
  obtain ⟨rfl, Nq1, hh1⟩ := hQ1
  have N1 := Fr.app N0 Nq1
  have e1 : T1.heap = h0 := hh1
  obtain ⟨T2, h2, X2, e2, W2, st2⟩ := putF X1 hx hZ hown (host := "") (Or.inl (hw _ (List.mem_of_getElem? (i := 15) rfl))) Via.refl e1 F_bytes E_ob (Or.inr ⟨(hw _ (List.mem_of_getElem? (i := 16) rfl)), rfl, hnm⟩) (hw _ (List.mem_of_getElem? (i := 2) rfl)) (ty := (.array .byte)) (by decide) rfl rfl (g := (mkF m 6 #[.val (.ref ob), .val (.ref ar), .val (.int sm)] [(.ref ar), (.ref ob)])) rfl rfl (hb hby d1_6)
  have Fw2 : Fld Z h2 ob "com/example/depthwire/depthwire/EncodedFields" "bytes" "[B" (.ref ar) := F_bytes.same W2
  have Z3 : n0 ≤ h2.size := Nat.le_trans Z0 (Keep.of_wr W2).1
  have K2 : Keep h0 h2 [ob] := (Keep.refl h0 [ob]).wr W2 (Or.inl (List.mem_of_getElem? (i := 0) rfl))
  have N2 := Fr.snoc X2 N1 g_ob
  have c4 : Exa Z h2 ob "com/example/depthwire/depthwire/EncodedFields" := (E_ob.wr W2)
  have c5 : Fld Z h2 ob "com/example/depthwire/depthwire/EncodedFields" "sum" "I" (.int (0 : Int32)) := (F_sum.other W2 (Or.inr (slot_ne (a0 := a0) (Or.inr (hw _ (List.mem_of_getElem? (i := 18) rfl))) (Or.inr (hw _ (List.mem_of_getElem? (i := 16) rfl))) (by decide) (t := .int) (t' := (.array .byte)) (by decide) (by decide))))
  obtain ⟨T6, h6, X6, e6, W6, st6⟩ := putF X2 hx hZ hown (host := "") (Or.inl (hw _ (List.mem_of_getElem? (i := 17) rfl))) Via.refl e2 c5 c4 (Or.inr ⟨(hw _ (List.mem_of_getElem? (i := 18) rfl)), rfl, hnm⟩) (hw _ (List.mem_of_getElem? (i := 2) rfl)) (ty := .int) (by decide) rfl rfl (g := (mkF m 11 #[.val (.ref ob), .val (.ref ar), .val (.int sm)] [(.int sm), (.ref ob)])) rfl rfl (hb hby d1_11)
  have Fw6 : Fld Z h6 ob "com/example/depthwire/depthwire/EncodedFields" "sum" "I" (.int sm) := c5.same W6
  have Z7 : n0 ≤ h6.size := Nat.le_trans Z3 (Keep.of_wr W6).1
  have K6 : Keep h0 h6 [ob] := K2.wr W6 (Or.inl (List.mem_of_getElem? (i := 0) rfl))
  have N6 := Fr.snoc X6 N2 g_ob
  have c8 : Exa Z h6 ob "com/example/depthwire/depthwire/EncodedFields" := (c4.wr W6)
  have c9 : Fld Z h6 ob "com/example/depthwire/depthwire/EncodedFields" "bytes" "[B" (.ref ar) := (Fw2.other W6 (Or.inr (slot_ne (a0 := a0) (Or.inr (hw _ (List.mem_of_getElem? (i := 16) rfl))) (Or.inr (hw _ (List.mem_of_getElem? (i := 18) rfl))) (by decide) (t := (.array .byte)) (t' := .int) (by decide) (by decide))))
  have pre10 : ∀ t, Steps p.tables e below (T6.setTop (mkF m 14 #[.val (.ref ob), .val (.ref ar), .val (.int sm)] [])) t → Steps p.tables e below (s₁.setTop (entryFrame m #[(.ref ob), (.ref ar), (.int sm)] 3)) t := fun t k => by
    refine pre0 t ?_
    show Steps p.tables e below (s₁.setTop (mkF m 0 #[.val (.ref ob), .val (.ref ar), .val (.int sm)] [])) _
    refine XS.aloadN X0.here hx rfl (hb hby d1_0) rfl rfl ?_
    show Steps p.tables e below (s₁.setTop (mkF m 1 #[.val (.ref ob), .val (.ref ar), .val (.int sm)] [(.ref ob)])) _
    refine st1.trans ?_
    show Steps p.tables e below (T1.setTop (mkF m 4 #[.val (.ref ob), .val (.ref ar), .val (.int sm)] [])) _
    refine XS.aloadN X1.here hx rfl (hb hby d1_4) rfl rfl ?_
    show Steps p.tables e below (T1.setTop (mkF m 5 #[.val (.ref ob), .val (.ref ar), .val (.int sm)] [(.ref ob)])) _
    refine XS.aloadN X1.here hx rfl (hb hby d1_5) rfl rfl ?_
    show Steps p.tables e below (T1.setTop (mkF m 6 #[.val (.ref ob), .val (.ref ar), .val (.int sm)] [(.ref ar), (.ref ob)])) _
    refine st2 _ ?_
    show Steps p.tables e below (T2.setTop (mkF m 9 #[.val (.ref ob), .val (.ref ar), .val (.int sm)] [])) _
    refine XS.aloadN X2.here hx rfl (hb hby d1_9) rfl rfl ?_
    show Steps p.tables e below (T2.setTop (mkF m 10 #[.val (.ref ob), .val (.ref ar), .val (.int sm)] [(.ref ob)])) _
    refine XS.iloadN X2.here hx rfl (hb hby d1_10) rfl ?_
    show Steps p.tables e below (T2.setTop (mkF m 11 #[.val (.ref ob), .val (.ref ar), .val (.int sm)] [(.int sm), (.ref ob)])) _
    refine st6 _ ?_
    exact k
  obtain ⟨fs, hrq, hrun, hended, hW, hsame⟩ := X6.leave (v := none) (fun _ => rfl)
  refine ⟨_, _, pre10 _ ?_, hrun, hended, _, _, rfl, ?_, ⟨_, rfl⟩, hW, hsame.mono (by decide) (by decide)⟩
  · show Steps p.tables e below (T6.setTop (mkF m 14 #[.val (.ref ob), .val (.ref ar), .val (.int sm)] [])) _
    exact X6.returnOut hx Bd.returns (hb hby d1_14) hrq
  · show Q1 Z ob ar sm h0 n0 _ T6.heap _
    rw [e6]
    exact ⟨rfl, N6, K6, c8, c9⟩
theorem d4_0 : decode prog_7_method_3_code 0 = .ok (.aload_n 0, 1) := by decide +kernel
theorem d4_1 : decode prog_7_method_3_code 1 = .ok (.getfield 7, 3) := by decide +kernel
theorem d4_4 : decode prog_7_method_3_code 4 = .ok (.arraylength, 1) := by decide +kernel
theorem d4_5 : decode prog_7_method_3_code 5 = .ok (.ifCond .ne 7, 3) := by decide +kernel
theorem d4_8 : decode prog_7_method_3_code 8 = .ok (.iconst 1, 1) := by decide +kernel
theorem d4_9 : decode prog_7_method_3_code 9 = .ok (.goto 4, 3) := by decide +kernel
theorem d4_12 : decode prog_7_method_3_code 12 = .ok (.iconst 0, 1) := by decide +kernel
theorem d4_13 : decode prog_7_method_3_code 13 = .ok (.ireturn, 1) := by decide +kernel
theorem ef_rm4 (m : MethodId) (x0 : Addr) : entryFrame m #[(.ref x0)] 1 = mkF m 0 #[.val (.ref x0)] [] := by first | (simp [entryFrame, mkF, argsToLocals, Value.category]; done) | rfl
def Q4 (Z : State) (ob : Addr) (ar : Addr) (kk : ClassId) (z : Int32) (vs : List Value) (dv : Value) (h0 : Heap) (n0 : Nat) (v : Option Value) (h : Heap) (L : List Loc) : Prop := v = some (.int (if z = (0 : Int32) then (1 : Int32) else (0 : Int32))) ∧ Fr n0 L ∧ h = h0
set_option maxRecDepth 65536 in
set_option maxHeartbeats 40000000 in
theorem rm4 (l : Launch) (Z : State) (a0 : Array Value) (hw : ∀ d ∈ tables_1, d.before a0 Z = true) (ws : List Jvm.Cond) (ob : Addr) (ar : Addr) (kk : ClassId) (z : Int32) (vs : List Value) (dv : Value) (h0 : Heap) (n0 : Nat) (Z0 : n0 ≤ h0.size) (F_bytes : Fld Z h0 ob "com/example/depthwire/depthwire/EncodedFields" "bytes" "[B" (.ref ar)) (V_ar : Arv Z h0 ar kk .byte z vs dv) :
    MetFree l (⟨"com/example/depthwire/depthwire/EncodedFields", "isEmpty", "()Z"⟩ : MethodName) (head1 (Jvm.Cond.code (⟨"com/example/depthwire/depthwire/EncodedFields", "isEmpty", "()Z"⟩ : MethodName) prog_7_method_3_code 1 (some .boolean) :: ws) ({ frames := 0, cells := 0, slots := 0, locals := 0 } : Room)) (fun a U => a = #[(.ref ob)] ∧ Z.Warmed39 U.vm ∧ U.heap = h0) (fun _ _ _ _ _ => True) (fun _ U o U' => ∃ v L, o = .returned v ∧ Q4 Z ob ar kk z vs dv h0 n0 v U'.heap L ∧ FrameEnd U o U' L ({ frames := 0, cells := 0, slots := 0, locals := 0 } : Room).cells ({ frames := 0, cells := 0, slots := 0, locals := 0 } : Room).slots) := by
  refine MetFree.of_bodySF (plainFor_of_name pn_1) hisR ?_
  intro p e s0 m args below meth c s₁ Bd hml0 hP hK
  obtain ⟨rfl, hZ, hh⟩ := hP
  have hx := Bd.exec
  have hby := Bd.bytes
  have hml : c.maxLocals = 1 := hml0
  have hown : s0.vm.findClass "com/example/depthwire/depthwire/EncodedFields" = some m.cls := findClass_of_methodNamed Bd.named
  have hnm := (name_of_methodNamed Bd.named Bd.method).1
  have X0 : Stand p l e ({ frames := 0, cells := 0, slots := 0, locals := 0 } : Room) s0 m #[(.ref ob)] below meth c s₁ [] 0 0 := Stand.of_body Bd
  have e0 : s₁.heap = h0 := by rw [← hh, Bd.state]; rfl
  have N0 := Fr.nil n0
  have pre0 : ∀ t, Steps p.tables e below (s₁.setTop (mkF m 0 #[.val (.ref ob)] [])) t → Steps p.tables e below (s₁.setTop (entryFrame m #[(.ref ob)] 1)) t := fun t k => castTop (ef_rm4 m ob) k
  obtain ⟨T1, X1, e1, st1⟩ := getF X0 hx hZ hown (host := "") (Or.inl (hw _ (List.mem_of_getElem? (i := 15) rfl))) Via.refl e0 F_bytes (g := (mkF m 1 #[.val (.ref ob)] [(.ref ob)])) rfl rfl (hb hby d4_1)
  obtain ⟨cl2, Ar2, -, Sz2, Nz2, -, -⟩ := id V_ar
  have pre3 : ∀ t, Steps p.tables e below (T1.setTop (mkF m 13 #[.val (.ref ob)] [(.int (if z = (0 : Int32) then (1 : Int32) else (0 : Int32)))])) t → Steps p.tables e below (s₁.setTop (entryFrame m #[(.ref ob)] 1)) t := fun t k => by
    refine pre0 t ?_
    show Steps p.tables e below (s₁.setTop (mkF m 0 #[.val (.ref ob)] [])) _
    refine XS.aloadN X0.here hx rfl (hb hby d4_0) rfl rfl ?_
    show Steps p.tables e below (s₁.setTop (mkF m 1 #[.val (.ref ob)] [(.ref ob)])) _
    refine st1 _ ?_
    show Steps p.tables e below (T1.setTop (mkF m 4 #[.val (.ref ob)] [(.ref ar)])) _
    refine X1.arraylength hx (by rw [e1]; exact Ar2.1) (State.isArrayOf_alike hZ.alike Ar2.2.1) (g := (mkF m 4 #[.val (.ref ob)] [(.ref ar)])) rfl rfl (hb hby d4_4) _ ?_
    rw [len_of Sz2 Nz2]
    show Steps p.tables e below (T1.setTop (mkF m 5 #[.val (.ref ob)] [(.int z)])) _
    refine own_boolI (g := (mkF m 5 #[.val (.ref ob)] [(.int z)])) X1.here hx rfl (hb hby d4_5) (hb hby d4_8) (hb hby d4_9) (hb hby d4_12) rfl (by exact own_b_ne _ _) ?_
    exact k
  obtain ⟨fs, hrq, hrun, hended, hW, hsame⟩ := X1.leave (v := some (.int (if z = (0 : Int32) then (1 : Int32) else (0 : Int32)))) (fun h => by rw [Bd.returns] at h; cases h)
  refine ⟨_, _, pre3 _ ?_, hrun, hended, _, _, rfl, ?_, ⟨_, rfl⟩, hW, hsame.mono (by decide) (by decide)⟩
  · show Steps p.tables e below (T1.setTop (mkF m 13 #[.val (.ref ob)] [(.int (if z = (0 : Int32) then (1 : Int32) else (0 : Int32)))])) _
    exact own_retN X1 hx (t := .boolean) Bd.returns (by simp) (hb hby d4_13) (own_nar_if (by decide) (by decide)) hrq
  · show Q4 Z ob ar kk z vs dv h0 n0 _ T1.heap _
    rw [e1]
    exact ⟨rfl, N0, rfl⟩
theorem pd_1 : parseMethodDescriptor "([BI)V" = some ⟨[(.array .byte), .int], none⟩ := by decide +kernel
theorem pd_2 : parseMethodDescriptor "()Z" = some ⟨[], some .boolean⟩ := by decide +kernel
theorem ef_rm0 (m : MethodId) (x0 : Int32) (x1 : Int32) (x2 : Int32) (x3 : Int32) (x4 : Int32) : entryFrame m #[(.int x0), (.int x1), (.int x2), (.int x3), (.int x4)] maxLocals = mkF m 0 #[.val (.int x0), .val (.int x1), .val (.int x2), .val (.int x3), .val (.int x4), .unset, .unset, .unset, .unset] [] := by first | (simp [entryFrame, mkF, argsToLocals, Value.category, maxLocals]; done) | rfl
theorem pn_2 : plainName "com/example/depthwire/depthwire/EncodedFieldsIsEmptyPinLaw" = true := by first | (simp [plainName, overriddenIn]; done) | decide +kernel
def Q0 (Z : State) (p0 : Int32) (p1 : Int32) (p2 : Int32) (p3 : Int32) (p4 : Int32) (h0 : Heap) (n0 : Nat) (v : Option Value) (h : Heap) (L : List Loc) : Prop := v = some (.int 1) ∧ Fr n0 L
set_option maxRecDepth 65536 in
set_option maxHeartbeats 40000000 in
theorem rm0 (l : Launch) (Z : State) (a0 : Array Value) (hw : ∀ d ∈ tables_1, d.before a0 Z = true) (ws : List Jvm.Cond) (p0 : Int32) (p1 : Int32) (p2 : Int32) (p3 : Int32) (p4 : Int32) (h0 : Heap) (n0 : Nat) (Z0 : n0 ≤ h0.size)  :
    MetFree l x (head1 (Jvm.Cond.code x code maxLocals ret :: ws) room_1) (fun a U => a = #[(.int p0), (.int p1), (.int p2), (.int p3), (.int p4)] ∧ Z.Warmed39 U.vm ∧ U.heap = h0) (fun _ _ _ _ _ => True) (fun _ U o U' => ∃ v L, o = .returned v ∧ Q0 Z p0 p1 p2 p3 p4 h0 n0 v U'.heap L ∧ FrameEnd U o U' L room_1.cells room_1.slots) := by
  refine MetFree.of_bodySF (plainFor_of_name pn_2) hisR ?_
  intro p e s0 m args below meth c s₁ Bd hml0 hP hK
  obtain ⟨rfl, hZ, hh⟩ := hP
  have hx := Bd.exec
  have hby := Bd.bytes
  have hml : c.maxLocals = 9 := hml0
  have hown : s0.vm.findClass "com/example/depthwire/depthwire/EncodedFieldsIsEmptyPinLaw" = some m.cls := findClass_of_methodNamed Bd.named
  have hnm := (name_of_methodNamed Bd.named Bd.method).1
  have X0 : Stand p l e room_1 s0 m #[(.int p0), (.int p1), (.int p2), (.int p3), (.int p4)] below meth c s₁ [] 0 0 := Stand.of_body Bd
  have e0 : s₁.heap = h0 := by rw [← hh, Bd.state]; rfl
  have N0 := Fr.nil n0
  have pre0 : ∀ t, Steps p.tables e below (s₁.setTop (mkF m 0 #[.val (.int p0), .val (.int p1), .val (.int p2), .val (.int p3), .val (.int p4), .unset, .unset, .unset, .unset] [])) t → Steps p.tables e below (s₁.setTop (entryFrame m #[(.int p0), (.int p1), (.int p2), (.int p3), (.int p4)] maxLocals)) t := fun t k => castTop (ef_rm0 m p0 p1 p2 p3 p4) k
  obtain ⟨T1, h1, k1, X1, e1, E1, A1, st1⟩ := newP X0 hx hZ (hw _ (List.mem_of_getElem? (i := 0) rfl)) e0 (g := (mkF m 7 #[.val (.int p0), .val (.int p1), .val (.int p2), .val (.int p3), .val (.int p4), .val (.int (p0 &&& (3 : Int32))), .unset, .unset, .unset] [(.int (p0 &&& (3 : Int32)))])) rfl (hb hby at_7) rfl (own_n0 p0) (cap := 3) (own_n3 p0) (by decide) (by decide) (by decide)
  obtain ⟨b1, g1⟩ : ∃ z, z = h0.size := ⟨_, rfl⟩
  rw [← g1] at A1 st1
  have g_b1 : n0 ≤ b1 := Nat.le_trans Z0 (Nat.le_of_eq g1.symm)
  have Z2 : n0 ≤ h1.size := Nat.le_trans Z0 E1.1
  have V1 : Arv Z h1 b1 k1 .byte (p0 &&& (3 : Int32)) [(.int (0 : Int32)), (.int (0 : Int32)), (.int (0 : Int32))] (.int (0 : Int32)) := (Arv.new A1 (own_n0 p0)).pad (pad_rep [] (.int (0 : Int32)) 3)
  have pre3 : ∀ t, Steps p.tables e below (T1.setTop (mkF m 13 #[.val (.int p0), .val (.int p1), .val (.int p2), .val (.int p3), .val (.int p4), .val (.int (p0 &&& (3 : Int32))), .val (.ref b1), .unset, .unset] [(.int (p0 &&& (3 : Int32)))])) t → Steps p.tables e below (s₁.setTop (entryFrame m #[(.int p0), (.int p1), (.int p2), (.int p3), (.int p4)] maxLocals)) t := fun t k => by
    refine pre0 t ?_
    show Steps p.tables e below (s₁.setTop (mkF m 0 #[.val (.int p0), .val (.int p1), .val (.int p2), .val (.int p3), .val (.int p4), .unset, .unset, .unset, .unset] [])) _
    refine XS.iloadN X0.here hx rfl (hb hby at_0) rfl ?_
    show Steps p.tables e below (s₁.setTop (mkF m 1 #[.val (.int p0), .val (.int p1), .val (.int p2), .val (.int p3), .val (.int p4), .unset, .unset, .unset, .unset] [(.int p0)])) _
    refine XS.iconst X0.here hx rfl (hb hby at_1) ?_
    show Steps p.tables e below (s₁.setTop (mkF m 2 #[.val (.int p0), .val (.int p1), .val (.int p2), .val (.int p3), .val (.int p4), .unset, .unset, .unset, .unset] [(.int (3 : Int32)), (.int p0)])) _
    refine XS.iand X0.here hx rfl (hb hby at_2) rfl ?_
    show Steps p.tables e below (s₁.setTop (mkF m 3 #[.val (.int p0), .val (.int p1), .val (.int p2), .val (.int p3), .val (.int p4), .unset, .unset, .unset, .unset] [(.int (p0 &&& (3 : Int32)))])) _
    refine XS.istore X0.here hx rfl (hb hby at_3) rfl (l' := #[.val (.int p0), .val (.int p1), .val (.int p2), .val (.int p3), .val (.int p4), .val (.int (p0 &&& (3 : Int32))), .unset, .unset, .unset]) rfl ?_
    show Steps p.tables e below (s₁.setTop (mkF m 5 #[.val (.int p0), .val (.int p1), .val (.int p2), .val (.int p3), .val (.int p4), .val (.int (p0 &&& (3 : Int32))), .unset, .unset, .unset] [])) _
    refine XS.iload X0.here hx rfl (hb hby at_5) rfl ?_
    show Steps p.tables e below (s₁.setTop (mkF m 7 #[.val (.int p0), .val (.int p1), .val (.int p2), .val (.int p3), .val (.int p4), .val (.int (p0 &&& (3 : Int32))), .unset, .unset, .unset] [(.int (p0 &&& (3 : Int32)))])) _
    refine st1 _ ?_
    show Steps p.tables e below (T1.setTop (mkF m 9 #[.val (.int p0), .val (.int p1), .val (.int p2), .val (.int p3), .val (.int p4), .val (.int (p0 &&& (3 : Int32))), .unset, .unset, .unset] [(.ref b1)])) _
    refine XS.astore X1.here hx rfl (hb hby at_9) rfl rfl (l' := #[.val (.int p0), .val (.int p1), .val (.int p2), .val (.int p3), .val (.int p4), .val (.int (p0 &&& (3 : Int32))), .val (.ref b1), .unset, .unset]) rfl ?_
    show Steps p.tables e below (T1.setTop (mkF m 11 #[.val (.int p0), .val (.int p1), .val (.int p2), .val (.int p3), .val (.int p4), .val (.int (p0 &&& (3 : Int32))), .val (.ref b1), .unset, .unset] [])) _
    refine XS.iload X1.here hx rfl (hb hby at_11) rfl ?_
    exact k
  by_cases hc13_4 : (0 : Int32) < (p0 &&& (3 : Int32))
  · obtain ⟨cl5, Ar5, q5, Sz5, Nz5, Hs5, Gs5⟩ := id V1
    have hin5 : ¬ ((0 : Int32) < 0 ∨ cl5.slots.size ≤ ((0 : Int32)).toNatClampNeg) := inb_of Sz5 ⟨by decide, hc13_4⟩
    obtain ⟨T6, h6, X6, e6, W6, st6⟩ := stB X1 hx hZ e1 Ar5 (j := (0 : Int32)) hin5 (g := (mkF m 21 #[.val (.int p0), .val (.int p1), .val (.int p2), .val (.int p3), .val (.int p4), .val (.int (p0 &&& (3 : Int32))), .val (.ref b1), .unset, .unset] [(.int (p2.toInt8.toInt32)), (.int (0 : Int32)), (.ref b1)])) rfl rfl (hb hby at_21)
    have V6 : Arv Z h6 b1 k1 .byte (p0 &&& (3 : Int32)) [(.int (nar .byte (p2.toInt8.toInt32))), (.int (0 : Int32)), (.int (0 : Int32))] (.int (0 : Int32)) := Arv.set Ar5 q5 Sz5 Nz5 Hs5 Gs5 (fits_nar_byte _) W6 0 rfl (Nat.le_of_ble_eq_true rfl)
    have Z7 : n0 ≤ h6.size := Nat.le_trans Z2 (Keep.of_wr W6).1
    have N6 := Fr.snoc X6 N0 g_b1
    have pre8 : ∀ t, Steps p.tables e below (T6.setTop (mkF m 25 #[.val (.int p0), .val (.int p1), .val (.int p2), .val (.int p3), .val (.int p4), .val (.int (p0 &&& (3 : Int32))), .val (.ref b1), .unset, .unset] [(.int (1 : Int32)), (.int (p0 &&& (3 : Int32)))])) t → Steps p.tables e below (s₁.setTop (entryFrame m #[(.int p0), (.int p1), (.int p2), (.int p3), (.int p4)] maxLocals)) t := fun t k => by
      refine pre3 t ?_
      show Steps p.tables e below (T1.setTop (mkF m 13 #[.val (.int p0), .val (.int p1), .val (.int p2), .val (.int p3), .val (.int p4), .val (.int (p0 &&& (3 : Int32))), .val (.ref b1), .unset, .unset] [(.int (p0 &&& (3 : Int32)))])) _
      refine XS.ifNo X1.here hx rfl (hb hby at_13) rfl ((if0 _ _).trans (tlt hc13_4).2.2.2) ?_
      show Steps p.tables e below (T1.setTop (mkF m 16 #[.val (.int p0), .val (.int p1), .val (.int p2), .val (.int p3), .val (.int p4), .val (.int (p0 &&& (3 : Int32))), .val (.ref b1), .unset, .unset] [])) _
      refine XS.aload X1.here hx rfl (hb hby at_16) rfl rfl ?_
      show Steps p.tables e below (T1.setTop (mkF m 18 #[.val (.int p0), .val (.int p1), .val (.int p2), .val (.int p3), .val (.int p4), .val (.int (p0 &&& (3 : Int32))), .val (.ref b1), .unset, .unset] [(.ref b1)])) _
      refine XS.iconst X1.here hx rfl (hb hby at_18) ?_
      show Steps p.tables e below (T1.setTop (mkF m 19 #[.val (.int p0), .val (.int p1), .val (.int p2), .val (.int p3), .val (.int p4), .val (.int (p0 &&& (3 : Int32))), .val (.ref b1), .unset, .unset] [(.int (0 : Int32)), (.ref b1)])) _
      refine XS.iloadN X1.here hx rfl (hb hby at_19) rfl ?_
      show Steps p.tables e below (T1.setTop (mkF m 20 #[.val (.int p0), .val (.int p1), .val (.int p2), .val (.int p3), .val (.int p4), .val (.int (p0 &&& (3 : Int32))), .val (.ref b1), .unset, .unset] [(.int p2), (.int (0 : Int32)), (.ref b1)])) _
      refine XS.i2b X1.here hx rfl (hb hby at_20) rfl ?_
      show Steps p.tables e below (T1.setTop (mkF m 21 #[.val (.int p0), .val (.int p1), .val (.int p2), .val (.int p3), .val (.int p4), .val (.int (p0 &&& (3 : Int32))), .val (.ref b1), .unset, .unset] [(.int (p2.toInt8.toInt32)), (.int (0 : Int32)), (.ref b1)])) _
      refine st6 _ ?_
      show Steps p.tables e below (T6.setTop (mkF m 22 #[.val (.int p0), .val (.int p1), .val (.int p2), .val (.int p3), .val (.int p4), .val (.int (p0 &&& (3 : Int32))), .val (.ref b1), .unset, .unset] [])) _
      refine XS.iload X6.here hx rfl (hb hby at_22) rfl ?_
      show Steps p.tables e below (T6.setTop (mkF m 24 #[.val (.int p0), .val (.int p1), .val (.int p2), .val (.int p3), .val (.int p4), .val (.int (p0 &&& (3 : Int32))), .val (.ref b1), .unset, .unset] [(.int (p0 &&& (3 : Int32)))])) _
      refine XS.iconst X6.here hx rfl (hb hby at_24) ?_
      exact k
    by_cases hc25_9 : (1 : Int32) < (p0 &&& (3 : Int32))
    · obtain ⟨cl10, Ar10, q10, Sz10, Nz10, Hs10, Gs10⟩ := id V6
      have hin10 : ¬ ((1 : Int32) < 0 ∨ cl10.slots.size ≤ ((1 : Int32)).toNatClampNeg) := inb_of Sz10 ⟨by decide, hc25_9⟩
      obtain ⟨T11, h11, X11, e11, W11, st11⟩ := stB X6 hx hZ e6 Ar10 (j := (1 : Int32)) hin10 (g := (mkF m 33 #[.val (.int p0), .val (.int p1), .val (.int p2), .val (.int p3), .val (.int p4), .val (.int (p0 &&& (3 : Int32))), .val (.ref b1), .unset, .unset] [(.int (p3.toInt8.toInt32)), (.int (1 : Int32)), (.ref b1)])) rfl rfl (hb hby at_33)
      have V11 : Arv Z h11 b1 k1 .byte (p0 &&& (3 : Int32)) [(.int (nar .byte (p2.toInt8.toInt32))), (.int (nar .byte (p3.toInt8.toInt32))), (.int (0 : Int32))] (.int (0 : Int32)) := Arv.set Ar10 q10 Sz10 Nz10 Hs10 Gs10 (fits_nar_byte _) W11 1 rfl (Nat.le_of_ble_eq_true rfl)
      have Z12 : n0 ≤ h11.size := Nat.le_trans Z7 (Keep.of_wr W11).1
      have N11 := Fr.snoc X11 N6 g_b1
      have pre13 : ∀ t, Steps p.tables e below (T11.setTop (mkF m 37 #[.val (.int p0), .val (.int p1), .val (.int p2), .val (.int p3), .val (.int p4), .val (.int (p0 &&& (3 : Int32))), .val (.ref b1), .unset, .unset] [(.int (2 : Int32)), (.int (p0 &&& (3 : Int32)))])) t → Steps p.tables e below (s₁.setTop (entryFrame m #[(.int p0), (.int p1), (.int p2), (.int p3), (.int p4)] maxLocals)) t := fun t k => by
        refine pre8 t ?_
        show Steps p.tables e below (T6.setTop (mkF m 25 #[.val (.int p0), .val (.int p1), .val (.int p2), .val (.int p3), .val (.int p4), .val (.int (p0 &&& (3 : Int32))), .val (.ref b1), .unset, .unset] [(.int (1 : Int32)), (.int (p0 &&& (3 : Int32)))])) _
        refine XS.icmpNo X6.here hx rfl (hb hby at_25) rfl (tlt hc25_9).2.2.2 ?_
        show Steps p.tables e below (T6.setTop (mkF m 28 #[.val (.int p0), .val (.int p1), .val (.int p2), .val (.int p3), .val (.int p4), .val (.int (p0 &&& (3 : Int32))), .val (.ref b1), .unset, .unset] [])) _
        refine XS.aload X6.here hx rfl (hb hby at_28) rfl rfl ?_
        show Steps p.tables e below (T6.setTop (mkF m 30 #[.val (.int p0), .val (.int p1), .val (.int p2), .val (.int p3), .val (.int p4), .val (.int (p0 &&& (3 : Int32))), .val (.ref b1), .unset, .unset] [(.ref b1)])) _
        refine XS.iconst X6.here hx rfl (hb hby at_30) ?_
        show Steps p.tables e below (T6.setTop (mkF m 31 #[.val (.int p0), .val (.int p1), .val (.int p2), .val (.int p3), .val (.int p4), .val (.int (p0 &&& (3 : Int32))), .val (.ref b1), .unset, .unset] [(.int (1 : Int32)), (.ref b1)])) _
        refine XS.iloadN X6.here hx rfl (hb hby at_31) rfl ?_
        show Steps p.tables e below (T6.setTop (mkF m 32 #[.val (.int p0), .val (.int p1), .val (.int p2), .val (.int p3), .val (.int p4), .val (.int (p0 &&& (3 : Int32))), .val (.ref b1), .unset, .unset] [(.int p3), (.int (1 : Int32)), (.ref b1)])) _
        refine XS.i2b X6.here hx rfl (hb hby at_32) rfl ?_
        show Steps p.tables e below (T6.setTop (mkF m 33 #[.val (.int p0), .val (.int p1), .val (.int p2), .val (.int p3), .val (.int p4), .val (.int (p0 &&& (3 : Int32))), .val (.ref b1), .unset, .unset] [(.int (p3.toInt8.toInt32)), (.int (1 : Int32)), (.ref b1)])) _
        refine st11 _ ?_
        show Steps p.tables e below (T11.setTop (mkF m 34 #[.val (.int p0), .val (.int p1), .val (.int p2), .val (.int p3), .val (.int p4), .val (.int (p0 &&& (3 : Int32))), .val (.ref b1), .unset, .unset] [])) _
        refine XS.iload X11.here hx rfl (hb hby at_34) rfl ?_
        show Steps p.tables e below (T11.setTop (mkF m 36 #[.val (.int p0), .val (.int p1), .val (.int p2), .val (.int p3), .val (.int p4), .val (.int (p0 &&& (3 : Int32))), .val (.ref b1), .unset, .unset] [(.int (p0 &&& (3 : Int32)))])) _
        refine XS.iconst X11.here hx rfl (hb hby at_36) ?_
        exact k
      by_cases hc37_14 : (2 : Int32) < (p0 &&& (3 : Int32))
      · obtain ⟨cl15, Ar15, q15, Sz15, Nz15, Hs15, Gs15⟩ := id V11
        have hin15 : ¬ ((2 : Int32) < 0 ∨ cl15.slots.size ≤ ((2 : Int32)).toNatClampNeg) := inb_of Sz15 ⟨by decide, hc37_14⟩
        obtain ⟨T16, h16, X16, e16, W16, st16⟩ := stB X11 hx hZ e11 Ar15 (j := (2 : Int32)) hin15 (g := (mkF m 46 #[.val (.int p0), .val (.int p1), .val (.int p2), .val (.int p3), .val (.int p4), .val (.int (p0 &&& (3 : Int32))), .val (.ref b1), .unset, .unset] [(.int (p4.toInt8.toInt32)), (.int (2 : Int32)), (.ref b1)])) rfl rfl (hb hby at_46)
        have V16 : Arv Z h16 b1 k1 .byte (p0 &&& (3 : Int32)) [(.int (nar .byte (p2.toInt8.toInt32))), (.int (nar .byte (p3.toInt8.toInt32))), (.int (nar .byte (p4.toInt8.toInt32)))] (.int (0 : Int32)) := Arv.set Ar15 q15 Sz15 Nz15 Hs15 Gs15 (fits_nar_byte _) W16 2 rfl (Nat.le_of_ble_eq_true rfl)
        have Z17 : n0 ≤ h16.size := Nat.le_trans Z12 (Keep.of_wr W16).1
        have N16 := Fr.snoc X16 N11 g_b1
        obtain ⟨T18, h18, X18, e18, E18, A18, D18, -, st18⟩ := newO X16 hx hZ hown (hw _ (List.mem_of_getElem? (i := 1) rfl)) (hw _ (List.mem_of_getElem? (i := 2) rfl)) (hw _ (List.mem_of_getElem? (i := 3) rfl)) e16 (g := (mkF m 47 #[.val (.int p0), .val (.int p1), .val (.int p2), .val (.int p3), .val (.int p4), .val (.int (p0 &&& (3 : Int32))), .val (.ref b1), .unset, .unset] [])) rfl (hb hby at_47) (by decide) (by decide)
        obtain ⟨b18, g18⟩ : ∃ z, z = h16.size := ⟨_, rfl⟩
        rw [← g18] at A18 D18 st18
        have g_b18 : n0 ≤ b18 := Nat.le_trans Z17 (Nat.le_of_eq g18.symm)
        have Z19 : n0 ≤ h18.size := Nat.le_trans Z17 E18.1
        have F_bytes_b18 : Fld Z h18 b18 "com/example/depthwire/depthwire/EncodedFields" "bytes" "[B" .null := D18 (Or.inr (hw _ (List.mem_of_getElem? (i := 16) rfl))) (ty := (.array .byte)) (by decide)
        have F_sum_b18 : Fld Z h18 b18 "com/example/depthwire/depthwire/EncodedFields" "sum" "I" (.int (0 : Int32)) := D18 (Or.inr (hw _ (List.mem_of_getElem? (i := 18) rfl))) (ty := .int) (by decide)
        obtain ⟨_, _, ⟨T20, L20, k20, n20⟩, -, X20, ⟨Lc20, hQ20, l20, y20, z20⟩, st20⟩ := X18.specialBack hx (y := (⟨"com/example/depthwire/depthwire/EncodedFields", "<init>", "([BI)V"⟩ : MethodName)) rfl hown (mvT hZ (hw _ (List.mem_of_getElem? (i := 4) rfl))) (mvT hZ (hw _ (List.mem_of_getElem? (i := 5) rfl))) (mvT hZ (hw _ (List.mem_of_getElem? (i := 6) rfl))) (by decide) (backOf (W := 1) (rm1 l Z a0 hw [] b18 b1 p1 h18 n0 Z19 A18 F_bytes_b18 F_sum_b18 g_b18) hZ (hw _ (List.mem_of_getElem? (i := 6) rfl)) (hw _ (List.mem_of_getElem? (i := 3) rfl)) (by decide) (by decide)) (g := (mkF m 54 #[.val (.int p0), .val (.int p1), .val (.int p2), .val (.int p3), .val (.int p4), .val (.int (p0 &&& (3 : Int32))), .val (.ref b1), .unset, .unset] [(.int p1), (.ref b1), (.ref b18), (.ref b18)])) rfl (by rw [hml]; rfl) (Steps.refl _) (a := b18) (argsL := [(.ref b1), (.int p1)]) (rest := [(.ref b18)]) (lenOf pd_1 rfl) rfl (by show 2 * 0 + _ ≤ _; exact Nat.le_of_eq rfl) (hb hby at_54) (fun _ _ => ⟨rfl, e18, (by decide : 2 + 0 ≤ _), (by decide : 5 + 0 ≤ _)⟩)
        dsimp only [Pt.U, Pt.locs, Pt.cells, Pt.slots] at X20 l20 y20 z20 st20 hQ20
        subst l20 y20 z20
        obtain ⟨rfl, Nq20, Kq20, Eq20, Fq20⟩ := hQ20
        have N20 := Fr.app N16 Nq20
        have Z21 : n0 ≤ T20.heap.size := Nat.le_trans Z19 Kq20.1
        have c22 : Arv Z T20.heap b1 k1 .byte (p0 &&& (3 : Int32)) [(.int (nar .byte (p2.toInt8.toInt32))), (.int (nar .byte (p3.toInt8.toInt32))), (.int (nar .byte (p4.toInt8.toInt32)))] (.int (0 : Int32)) := ((V16.ext E18).keep Kq20 (ninS (Nat.ne_of_lt (Nat.lt_of_lt_of_le (Nat.lt_of_lt_of_le (Nat.lt_of_lt_of_le (Nat.lt_of_lt_of_le V1.lt (Keep.of_wr W6).1) (Keep.of_wr W11).1) (Keep.of_wr W16).1) (Nat.le_of_eq g18.symm))) nin0))
        obtain ⟨cq23, kq23, q23a, q23b, q23c⟩ := isOf hZ rfl Eq20
        obtain ⟨_, _, ⟨T23, L23, k23, n23⟩, -, X23, ⟨Lc23, hQ23, l23, y23, z23⟩, st23⟩ := X20.virtualBack hx (y := (⟨"com/example/depthwire/depthwire/EncodedFields", "isEmpty", "()Z"⟩ : MethodName)) (z := (⟨"com/example/depthwire/depthwire/EncodedFields", "isEmpty", "()Z"⟩ : MethodName)) hown (mvT hZ (hw _ (List.mem_of_getElem? (i := 19) rfl))) (mvT hZ (hw _ (List.mem_of_getElem? (i := 20) rfl))) (notFace_of_selects (args := #[]) (mvT hZ (hw _ (List.mem_of_getElem? (i := 22) rfl)))) (mvT hZ (hw _ (List.mem_of_getElem? (i := 22) rfl))) (mvT hZ (hw _ (List.mem_of_getElem? (i := 21) rfl))) (by decide) (backOf (W := 0) (rm4 l Z a0 hw [] b18 b1 k1 (p0 &&& (3 : Int32)) [(.int (nar .byte (p2.toInt8.toInt32))), (.int (nar .byte (p3.toInt8.toInt32))), (.int (nar .byte (p4.toInt8.toInt32)))] (.int (0 : Int32)) T20.heap n0 Z21 Fq20 c22) hZ (hw _ (List.mem_of_getElem? (i := 23) rfl)) (hw _ (List.mem_of_getElem? (i := 3) rfl)) (by decide) (by decide)) q23a q23c (g := (mkF m 73 #[.val (.int p0), .val (.int p1), .val (.int p2), .val (.int p3), .val (.int p4), .val (.int (p0 &&& (3 : Int32))), .val (.ref b1), .val (.ref b18), .val (.int (if (p0 &&& (3 : Int32)) = (0 : Int32) then (1 : Int32) else (0 : Int32)))] [(.ref b18)])) rfl (by rw [hml]; rfl) (Steps.refl _) (argsL := []) (rest := []) (lenOf pd_2 rfl) rfl (by show 2 * 0 + _ ≤ _; exact Nat.le_of_eq rfl) (hb hby at_73) (fun _ _ => ⟨rfl, rfl, (by decide : 2 + 0 ≤ _), (by decide : 5 + 0 ≤ _)⟩)
        dsimp only [Pt.U, Pt.locs, Pt.cells, Pt.slots] at X23 l23 y23 z23 st23 hQ23
        subst l23 y23 z23
        obtain ⟨rfl, Nq23, hh23⟩ := hQ23
        have N23 := Fr.app N20 Nq23
        have e23 : T23.heap = T20.heap := hh23
        have pre24 : ∀ t, Steps p.tables e below (T23.setTop (mkF m 86 #[.val (.int p0), .val (.int p1), .val (.int p2), .val (.int p3), .val (.int p4), .val (.int (p0 &&& (3 : Int32))), .val (.ref b1), .val (.ref b18), .val (.int (if (p0 &&& (3 : Int32)) = (0 : Int32) then (1 : Int32) else (0 : Int32)))] [(.int (1 : Int32))])) t → Steps p.tables e below (s₁.setTop (entryFrame m #[(.int p0), (.int p1), (.int p2), (.int p3), (.int p4)] maxLocals)) t := fun t k => by
          refine pre13 t ?_
          show Steps p.tables e below (T11.setTop (mkF m 37 #[.val (.int p0), .val (.int p1), .val (.int p2), .val (.int p3), .val (.int p4), .val (.int (p0 &&& (3 : Int32))), .val (.ref b1), .unset, .unset] [(.int (2 : Int32)), (.int (p0 &&& (3 : Int32)))])) _
          refine XS.icmpNo X11.here hx rfl (hb hby at_37) rfl (tlt hc37_14).2.2.2 ?_
          show Steps p.tables e below (T11.setTop (mkF m 40 #[.val (.int p0), .val (.int p1), .val (.int p2), .val (.int p3), .val (.int p4), .val (.int (p0 &&& (3 : Int32))), .val (.ref b1), .unset, .unset] [])) _
          refine XS.aload X11.here hx rfl (hb hby at_40) rfl rfl ?_
          show Steps p.tables e below (T11.setTop (mkF m 42 #[.val (.int p0), .val (.int p1), .val (.int p2), .val (.int p3), .val (.int p4), .val (.int (p0 &&& (3 : Int32))), .val (.ref b1), .unset, .unset] [(.ref b1)])) _
          refine XS.iconst X11.here hx rfl (hb hby at_42) ?_
          show Steps p.tables e below (T11.setTop (mkF m 43 #[.val (.int p0), .val (.int p1), .val (.int p2), .val (.int p3), .val (.int p4), .val (.int (p0 &&& (3 : Int32))), .val (.ref b1), .unset, .unset] [(.int (2 : Int32)), (.ref b1)])) _
          refine XS.iload X11.here hx rfl (hb hby at_43) rfl ?_
          show Steps p.tables e below (T11.setTop (mkF m 45 #[.val (.int p0), .val (.int p1), .val (.int p2), .val (.int p3), .val (.int p4), .val (.int (p0 &&& (3 : Int32))), .val (.ref b1), .unset, .unset] [(.int p4), (.int (2 : Int32)), (.ref b1)])) _
          refine XS.i2b X11.here hx rfl (hb hby at_45) rfl ?_
          show Steps p.tables e below (T11.setTop (mkF m 46 #[.val (.int p0), .val (.int p1), .val (.int p2), .val (.int p3), .val (.int p4), .val (.int (p0 &&& (3 : Int32))), .val (.ref b1), .unset, .unset] [(.int (p4.toInt8.toInt32)), (.int (2 : Int32)), (.ref b1)])) _
          refine st16 _ ?_
          show Steps p.tables e below (T16.setTop (mkF m 47 #[.val (.int p0), .val (.int p1), .val (.int p2), .val (.int p3), .val (.int p4), .val (.int (p0 &&& (3 : Int32))), .val (.ref b1), .unset, .unset] [])) _
          refine st18 _ ?_
          show Steps p.tables e below (T18.setTop (mkF m 50 #[.val (.int p0), .val (.int p1), .val (.int p2), .val (.int p3), .val (.int p4), .val (.int (p0 &&& (3 : Int32))), .val (.ref b1), .unset, .unset] [(.ref b18)])) _
          refine XS.dup X18.here hx rfl (hb hby at_50) rfl rfl ?_
          show Steps p.tables e below (T18.setTop (mkF m 51 #[.val (.int p0), .val (.int p1), .val (.int p2), .val (.int p3), .val (.int p4), .val (.int (p0 &&& (3 : Int32))), .val (.ref b1), .unset, .unset] [(.ref b18), (.ref b18)])) _
          refine XS.aload X18.here hx rfl (hb hby at_51) rfl rfl ?_
          show Steps p.tables e below (T18.setTop (mkF m 53 #[.val (.int p0), .val (.int p1), .val (.int p2), .val (.int p3), .val (.int p4), .val (.int (p0 &&& (3 : Int32))), .val (.ref b1), .unset, .unset] [(.ref b1), (.ref b18), (.ref b18)])) _
          refine XS.iloadN X18.here hx rfl (hb hby at_53) rfl ?_
          show Steps p.tables e below (T18.setTop (mkF m 54 #[.val (.int p0), .val (.int p1), .val (.int p2), .val (.int p3), .val (.int p4), .val (.int (p0 &&& (3 : Int32))), .val (.ref b1), .unset, .unset] [(.int p1), (.ref b1), (.ref b18), (.ref b18)])) _
          refine st20.trans ?_
          show Steps p.tables e below (T20.setTop (mkF m 57 #[.val (.int p0), .val (.int p1), .val (.int p2), .val (.int p3), .val (.int p4), .val (.int (p0 &&& (3 : Int32))), .val (.ref b1), .unset, .unset] [(.ref b18)])) _
          refine XS.astore X20.here hx rfl (hb hby at_57) rfl rfl (l' := #[.val (.int p0), .val (.int p1), .val (.int p2), .val (.int p3), .val (.int p4), .val (.int (p0 &&& (3 : Int32))), .val (.ref b1), .val (.ref b18), .unset]) rfl ?_
          show Steps p.tables e below (T20.setTop (mkF m 59 #[.val (.int p0), .val (.int p1), .val (.int p2), .val (.int p3), .val (.int p4), .val (.int (p0 &&& (3 : Int32))), .val (.ref b1), .val (.ref b18), .unset] [])) _
          refine XS.iload X20.here hx rfl (hb hby at_59) rfl ?_
          show Steps p.tables e below (T20.setTop (mkF m 61 #[.val (.int p0), .val (.int p1), .val (.int p2), .val (.int p3), .val (.int p4), .val (.int (p0 &&& (3 : Int32))), .val (.ref b1), .val (.ref b18), .unset] [(.int (p0 &&& (3 : Int32)))])) _
          refine own_boolI (g := (mkF m 61 #[.val (.int p0), .val (.int p1), .val (.int p2), .val (.int p3), .val (.int p4), .val (.int (p0 &&& (3 : Int32))), .val (.ref b1), .val (.ref b18), .unset] [(.int (p0 &&& (3 : Int32)))])) X20.here hx rfl (hb hby at_61) (hb hby at_64) (hb hby at_65) (hb hby at_68) rfl (by exact own_b_ne _ _) ?_
          show Steps p.tables e below (T20.setTop (mkF m 69 #[.val (.int p0), .val (.int p1), .val (.int p2), .val (.int p3), .val (.int p4), .val (.int (p0 &&& (3 : Int32))), .val (.ref b1), .val (.ref b18), .unset] [(.int (if (p0 &&& (3 : Int32)) = (0 : Int32) then (1 : Int32) else (0 : Int32)))])) _
          refine XS.istore X20.here hx rfl (hb hby at_69) rfl (l' := #[.val (.int p0), .val (.int p1), .val (.int p2), .val (.int p3), .val (.int p4), .val (.int (p0 &&& (3 : Int32))), .val (.ref b1), .val (.ref b18), .val (.int (if (p0 &&& (3 : Int32)) = (0 : Int32) then (1 : Int32) else (0 : Int32)))]) rfl ?_
          show Steps p.tables e below (T20.setTop (mkF m 71 #[.val (.int p0), .val (.int p1), .val (.int p2), .val (.int p3), .val (.int p4), .val (.int (p0 &&& (3 : Int32))), .val (.ref b1), .val (.ref b18), .val (.int (if (p0 &&& (3 : Int32)) = (0 : Int32) then (1 : Int32) else (0 : Int32)))] [])) _
          refine XS.aload X20.here hx rfl (hb hby at_71) rfl rfl ?_
          show Steps p.tables e below (T20.setTop (mkF m 73 #[.val (.int p0), .val (.int p1), .val (.int p2), .val (.int p3), .val (.int p4), .val (.int (p0 &&& (3 : Int32))), .val (.ref b1), .val (.ref b18), .val (.int (if (p0 &&& (3 : Int32)) = (0 : Int32) then (1 : Int32) else (0 : Int32)))] [(.ref b18)])) _
          refine st23.trans ?_
          show Steps p.tables e below (T23.setTop (mkF m 76 #[.val (.int p0), .val (.int p1), .val (.int p2), .val (.int p3), .val (.int p4), .val (.int (p0 &&& (3 : Int32))), .val (.ref b1), .val (.ref b18), .val (.int (if (p0 &&& (3 : Int32)) = (0 : Int32) then (1 : Int32) else (0 : Int32)))] [(.int (if (p0 &&& (3 : Int32)) = (0 : Int32) then (1 : Int32) else (0 : Int32)))])) _
          refine XS.iload X23.here hx rfl (hb hby at_76) rfl ?_
          show Steps p.tables e below (T23.setTop (mkF m 78 #[.val (.int p0), .val (.int p1), .val (.int p2), .val (.int p3), .val (.int p4), .val (.int (p0 &&& (3 : Int32))), .val (.ref b1), .val (.ref b18), .val (.int (if (p0 &&& (3 : Int32)) = (0 : Int32) then (1 : Int32) else (0 : Int32)))] [(.int (if (p0 &&& (3 : Int32)) = (0 : Int32) then (1 : Int32) else (0 : Int32))), (.int (if (p0 &&& (3 : Int32)) = (0 : Int32) then (1 : Int32) else (0 : Int32)))])) _
          refine XS.icmpNo X23.here hx rfl (hb hby at_78) rfl (teq (rfl : (if (p0 &&& (3 : Int32)) = (0 : Int32) then (1 : Int32) else (0 : Int32)) = (if (p0 &&& (3 : Int32)) = (0 : Int32) then (1 : Int32) else (0 : Int32)))).2 ?_
          show Steps p.tables e below (T23.setTop (mkF m 81 #[.val (.int p0), .val (.int p1), .val (.int p2), .val (.int p3), .val (.int p4), .val (.int (p0 &&& (3 : Int32))), .val (.ref b1), .val (.ref b18), .val (.int (if (p0 &&& (3 : Int32)) = (0 : Int32) then (1 : Int32) else (0 : Int32)))] [])) _
          refine XS.iconst X23.here hx rfl (hb hby at_81) ?_
          show Steps p.tables e below (T23.setTop (mkF m 82 #[.val (.int p0), .val (.int p1), .val (.int p2), .val (.int p3), .val (.int p4), .val (.int (p0 &&& (3 : Int32))), .val (.ref b1), .val (.ref b18), .val (.int (if (p0 &&& (3 : Int32)) = (0 : Int32) then (1 : Int32) else (0 : Int32)))] [(.int (1 : Int32))])) _
          refine XS.goto X23.here hx rfl (pc0 := 82) (pc' := 86) rfl (hb hby at_82) (by decide) (by decide) ?_
          exact k
        obtain ⟨fs, hrq, hrun, hended, hW, hsame⟩ := X23.leave (v := some (.int (1 : Int32))) (fun h => by rw [Bd.returns] at h; cases h)
        refine ⟨_, _, pre24 _ ?_, hrun, hended, _, _, rfl, ?_, ⟨_, rfl⟩, hW, hsame.mono (by decide) (by decide)⟩
        · show Steps p.tables e below (T23.setTop (mkF m 86 #[.val (.int p0), .val (.int p1), .val (.int p2), .val (.int p3), .val (.int p4), .val (.int (p0 &&& (3 : Int32))), .val (.ref b1), .val (.ref b18), .val (.int (if (p0 &&& (3 : Int32)) = (0 : Int32) then (1 : Int32) else (0 : Int32)))] [(.int (1 : Int32))])) _
          exact retN X23 hx (t := .boolean) Bd.returns (by simp) (hb hby at_86) hrq
        · show Q0 Z p0 p1 p2 p3 p4 h0 n0 _ T23.heap _
          rw [e23]
          exact ⟨rfl, N23⟩
      · obtain ⟨T25, h25, X25, e25, E25, A25, D25, -, st25⟩ := newO X11 hx hZ hown (hw _ (List.mem_of_getElem? (i := 1) rfl)) (hw _ (List.mem_of_getElem? (i := 2) rfl)) (hw _ (List.mem_of_getElem? (i := 3) rfl)) e11 (g := (mkF m 47 #[.val (.int p0), .val (.int p1), .val (.int p2), .val (.int p3), .val (.int p4), .val (.int (p0 &&& (3 : Int32))), .val (.ref b1), .unset, .unset] [])) rfl (hb hby at_47) (by decide) (by decide)
        obtain ⟨b25, g25⟩ : ∃ z, z = h11.size := ⟨_, rfl⟩
        rw [← g25] at A25 D25 st25
        have g_b25 : n0 ≤ b25 := Nat.le_trans Z12 (Nat.le_of_eq g25.symm)
        have Z26 : n0 ≤ h25.size := Nat.le_trans Z12 E25.1
        have F_bytes_b25 : Fld Z h25 b25 "com/example/depthwire/depthwire/EncodedFields" "bytes" "[B" .null := D25 (Or.inr (hw _ (List.mem_of_getElem? (i := 16) rfl))) (ty := (.array .byte)) (by decide)
        have F_sum_b25 : Fld Z h25 b25 "com/example/depthwire/depthwire/EncodedFields" "sum" "I" (.int (0 : Int32)) := D25 (Or.inr (hw _ (List.mem_of_getElem? (i := 18) rfl))) (ty := .int) (by decide)
        obtain ⟨_, _, ⟨T27, L27, k27, n27⟩, -, X27, ⟨Lc27, hQ27, l27, y27, z27⟩, st27⟩ := X25.specialBack hx (y := (⟨"com/example/depthwire/depthwire/EncodedFields", "<init>", "([BI)V"⟩ : MethodName)) rfl hown (mvT hZ (hw _ (List.mem_of_getElem? (i := 4) rfl))) (mvT hZ (hw _ (List.mem_of_getElem? (i := 5) rfl))) (mvT hZ (hw _ (List.mem_of_getElem? (i := 6) rfl))) (by decide) (backOf (W := 1) (rm1 l Z a0 hw [] b25 b1 p1 h25 n0 Z26 A25 F_bytes_b25 F_sum_b25 g_b25) hZ (hw _ (List.mem_of_getElem? (i := 6) rfl)) (hw _ (List.mem_of_getElem? (i := 3) rfl)) (by decide) (by decide)) (g := (mkF m 54 #[.val (.int p0), .val (.int p1), .val (.int p2), .val (.int p3), .val (.int p4), .val (.int (p0 &&& (3 : Int32))), .val (.ref b1), .unset, .unset] [(.int p1), (.ref b1), (.ref b25), (.ref b25)])) rfl (by rw [hml]; rfl) (Steps.refl _) (a := b25) (argsL := [(.ref b1), (.int p1)]) (rest := [(.ref b25)]) (lenOf pd_1 rfl) rfl (by show 2 * 0 + _ ≤ _; exact Nat.le_of_eq rfl) (hb hby at_54) (fun _ _ => ⟨rfl, e25, (by decide : 2 + 0 ≤ _), (by decide : 5 + 0 ≤ _)⟩)
        dsimp only [Pt.U, Pt.locs, Pt.cells, Pt.slots] at X27 l27 y27 z27 st27 hQ27
        subst l27 y27 z27
        obtain ⟨rfl, Nq27, Kq27, Eq27, Fq27⟩ := hQ27
        have N27 := Fr.app N11 Nq27
        have Z28 : n0 ≤ T27.heap.size := Nat.le_trans Z26 Kq27.1
        have c29 : Arv Z T27.heap b1 k1 .byte (p0 &&& (3 : Int32)) [(.int (nar .byte (p2.toInt8.toInt32))), (.int (nar .byte (p3.toInt8.toInt32))), (.int (0 : Int32))] (.int (0 : Int32)) := ((V11.ext E25).keep Kq27 (ninS (Nat.ne_of_lt (Nat.lt_of_lt_of_le (Nat.lt_of_lt_of_le (Nat.lt_of_lt_of_le V1.lt (Keep.of_wr W6).1) (Keep.of_wr W11).1) (Nat.le_of_eq g25.symm))) nin0))
        obtain ⟨cq30, kq30, q30a, q30b, q30c⟩ := isOf hZ rfl Eq27
        obtain ⟨_, _, ⟨T30, L30, k30, n30⟩, -, X30, ⟨Lc30, hQ30, l30, y30, z30⟩, st30⟩ := X27.virtualBack hx (y := (⟨"com/example/depthwire/depthwire/EncodedFields", "isEmpty", "()Z"⟩ : MethodName)) (z := (⟨"com/example/depthwire/depthwire/EncodedFields", "isEmpty", "()Z"⟩ : MethodName)) hown (mvT hZ (hw _ (List.mem_of_getElem? (i := 19) rfl))) (mvT hZ (hw _ (List.mem_of_getElem? (i := 20) rfl))) (notFace_of_selects (args := #[]) (mvT hZ (hw _ (List.mem_of_getElem? (i := 22) rfl)))) (mvT hZ (hw _ (List.mem_of_getElem? (i := 22) rfl))) (mvT hZ (hw _ (List.mem_of_getElem? (i := 21) rfl))) (by decide) (backOf (W := 0) (rm4 l Z a0 hw [] b25 b1 k1 (p0 &&& (3 : Int32)) [(.int (nar .byte (p2.toInt8.toInt32))), (.int (nar .byte (p3.toInt8.toInt32))), (.int (0 : Int32))] (.int (0 : Int32)) T27.heap n0 Z28 Fq27 c29) hZ (hw _ (List.mem_of_getElem? (i := 23) rfl)) (hw _ (List.mem_of_getElem? (i := 3) rfl)) (by decide) (by decide)) q30a q30c (g := (mkF m 73 #[.val (.int p0), .val (.int p1), .val (.int p2), .val (.int p3), .val (.int p4), .val (.int (p0 &&& (3 : Int32))), .val (.ref b1), .val (.ref b25), .val (.int (if (p0 &&& (3 : Int32)) = (0 : Int32) then (1 : Int32) else (0 : Int32)))] [(.ref b25)])) rfl (by rw [hml]; rfl) (Steps.refl _) (argsL := []) (rest := []) (lenOf pd_2 rfl) rfl (by show 2 * 0 + _ ≤ _; exact Nat.le_of_eq rfl) (hb hby at_73) (fun _ _ => ⟨rfl, rfl, (by decide : 2 + 0 ≤ _), (by decide : 5 + 0 ≤ _)⟩)
        dsimp only [Pt.U, Pt.locs, Pt.cells, Pt.slots] at X30 l30 y30 z30 st30 hQ30
        subst l30 y30 z30
        obtain ⟨rfl, Nq30, hh30⟩ := hQ30
        have N30 := Fr.app N27 Nq30
        have e30 : T30.heap = T27.heap := hh30
        have pre31 : ∀ t, Steps p.tables e below (T30.setTop (mkF m 86 #[.val (.int p0), .val (.int p1), .val (.int p2), .val (.int p3), .val (.int p4), .val (.int (p0 &&& (3 : Int32))), .val (.ref b1), .val (.ref b25), .val (.int (if (p0 &&& (3 : Int32)) = (0 : Int32) then (1 : Int32) else (0 : Int32)))] [(.int (1 : Int32))])) t → Steps p.tables e below (s₁.setTop (entryFrame m #[(.int p0), (.int p1), (.int p2), (.int p3), (.int p4)] maxLocals)) t := fun t k => by
          refine pre13 t ?_
          show Steps p.tables e below (T11.setTop (mkF m 37 #[.val (.int p0), .val (.int p1), .val (.int p2), .val (.int p3), .val (.int p4), .val (.int (p0 &&& (3 : Int32))), .val (.ref b1), .unset, .unset] [(.int (2 : Int32)), (.int (p0 &&& (3 : Int32)))])) _
          refine XS.icmpYes X11.here hx rfl (pc0 := 37) (pc' := 47) rfl (hb hby at_37) rfl (flt hc37_14).2.2.2 (by decide) (by decide) ?_
          show Steps p.tables e below (T11.setTop (mkF m 47 #[.val (.int p0), .val (.int p1), .val (.int p2), .val (.int p3), .val (.int p4), .val (.int (p0 &&& (3 : Int32))), .val (.ref b1), .unset, .unset] [])) _
          refine st25 _ ?_
          show Steps p.tables e below (T25.setTop (mkF m 50 #[.val (.int p0), .val (.int p1), .val (.int p2), .val (.int p3), .val (.int p4), .val (.int (p0 &&& (3 : Int32))), .val (.ref b1), .unset, .unset] [(.ref b25)])) _
          refine XS.dup X25.here hx rfl (hb hby at_50) rfl rfl ?_
          show Steps p.tables e below (T25.setTop (mkF m 51 #[.val (.int p0), .val (.int p1), .val (.int p2), .val (.int p3), .val (.int p4), .val (.int (p0 &&& (3 : Int32))), .val (.ref b1), .unset, .unset] [(.ref b25), (.ref b25)])) _
          refine XS.aload X25.here hx rfl (hb hby at_51) rfl rfl ?_
          show Steps p.tables e below (T25.setTop (mkF m 53 #[.val (.int p0), .val (.int p1), .val (.int p2), .val (.int p3), .val (.int p4), .val (.int (p0 &&& (3 : Int32))), .val (.ref b1), .unset, .unset] [(.ref b1), (.ref b25), (.ref b25)])) _
          refine XS.iloadN X25.here hx rfl (hb hby at_53) rfl ?_
          show Steps p.tables e below (T25.setTop (mkF m 54 #[.val (.int p0), .val (.int p1), .val (.int p2), .val (.int p3), .val (.int p4), .val (.int (p0 &&& (3 : Int32))), .val (.ref b1), .unset, .unset] [(.int p1), (.ref b1), (.ref b25), (.ref b25)])) _
          refine st27.trans ?_
          show Steps p.tables e below (T27.setTop (mkF m 57 #[.val (.int p0), .val (.int p1), .val (.int p2), .val (.int p3), .val (.int p4), .val (.int (p0 &&& (3 : Int32))), .val (.ref b1), .unset, .unset] [(.ref b25)])) _
          refine XS.astore X27.here hx rfl (hb hby at_57) rfl rfl (l' := #[.val (.int p0), .val (.int p1), .val (.int p2), .val (.int p3), .val (.int p4), .val (.int (p0 &&& (3 : Int32))), .val (.ref b1), .val (.ref b25), .unset]) rfl ?_
          show Steps p.tables e below (T27.setTop (mkF m 59 #[.val (.int p0), .val (.int p1), .val (.int p2), .val (.int p3), .val (.int p4), .val (.int (p0 &&& (3 : Int32))), .val (.ref b1), .val (.ref b25), .unset] [])) _
          refine XS.iload X27.here hx rfl (hb hby at_59) rfl ?_
          show Steps p.tables e below (T27.setTop (mkF m 61 #[.val (.int p0), .val (.int p1), .val (.int p2), .val (.int p3), .val (.int p4), .val (.int (p0 &&& (3 : Int32))), .val (.ref b1), .val (.ref b25), .unset] [(.int (p0 &&& (3 : Int32)))])) _
          refine own_boolI (g := (mkF m 61 #[.val (.int p0), .val (.int p1), .val (.int p2), .val (.int p3), .val (.int p4), .val (.int (p0 &&& (3 : Int32))), .val (.ref b1), .val (.ref b25), .unset] [(.int (p0 &&& (3 : Int32)))])) X27.here hx rfl (hb hby at_61) (hb hby at_64) (hb hby at_65) (hb hby at_68) rfl (by exact own_b_ne _ _) ?_
          show Steps p.tables e below (T27.setTop (mkF m 69 #[.val (.int p0), .val (.int p1), .val (.int p2), .val (.int p3), .val (.int p4), .val (.int (p0 &&& (3 : Int32))), .val (.ref b1), .val (.ref b25), .unset] [(.int (if (p0 &&& (3 : Int32)) = (0 : Int32) then (1 : Int32) else (0 : Int32)))])) _
          refine XS.istore X27.here hx rfl (hb hby at_69) rfl (l' := #[.val (.int p0), .val (.int p1), .val (.int p2), .val (.int p3), .val (.int p4), .val (.int (p0 &&& (3 : Int32))), .val (.ref b1), .val (.ref b25), .val (.int (if (p0 &&& (3 : Int32)) = (0 : Int32) then (1 : Int32) else (0 : Int32)))]) rfl ?_
          show Steps p.tables e below (T27.setTop (mkF m 71 #[.val (.int p0), .val (.int p1), .val (.int p2), .val (.int p3), .val (.int p4), .val (.int (p0 &&& (3 : Int32))), .val (.ref b1), .val (.ref b25), .val (.int (if (p0 &&& (3 : Int32)) = (0 : Int32) then (1 : Int32) else (0 : Int32)))] [])) _
          refine XS.aload X27.here hx rfl (hb hby at_71) rfl rfl ?_
          show Steps p.tables e below (T27.setTop (mkF m 73 #[.val (.int p0), .val (.int p1), .val (.int p2), .val (.int p3), .val (.int p4), .val (.int (p0 &&& (3 : Int32))), .val (.ref b1), .val (.ref b25), .val (.int (if (p0 &&& (3 : Int32)) = (0 : Int32) then (1 : Int32) else (0 : Int32)))] [(.ref b25)])) _
          refine st30.trans ?_
          show Steps p.tables e below (T30.setTop (mkF m 76 #[.val (.int p0), .val (.int p1), .val (.int p2), .val (.int p3), .val (.int p4), .val (.int (p0 &&& (3 : Int32))), .val (.ref b1), .val (.ref b25), .val (.int (if (p0 &&& (3 : Int32)) = (0 : Int32) then (1 : Int32) else (0 : Int32)))] [(.int (if (p0 &&& (3 : Int32)) = (0 : Int32) then (1 : Int32) else (0 : Int32)))])) _
          refine XS.iload X30.here hx rfl (hb hby at_76) rfl ?_
          show Steps p.tables e below (T30.setTop (mkF m 78 #[.val (.int p0), .val (.int p1), .val (.int p2), .val (.int p3), .val (.int p4), .val (.int (p0 &&& (3 : Int32))), .val (.ref b1), .val (.ref b25), .val (.int (if (p0 &&& (3 : Int32)) = (0 : Int32) then (1 : Int32) else (0 : Int32)))] [(.int (if (p0 &&& (3 : Int32)) = (0 : Int32) then (1 : Int32) else (0 : Int32))), (.int (if (p0 &&& (3 : Int32)) = (0 : Int32) then (1 : Int32) else (0 : Int32)))])) _
          refine XS.icmpNo X30.here hx rfl (hb hby at_78) rfl (teq (rfl : (if (p0 &&& (3 : Int32)) = (0 : Int32) then (1 : Int32) else (0 : Int32)) = (if (p0 &&& (3 : Int32)) = (0 : Int32) then (1 : Int32) else (0 : Int32)))).2 ?_
          show Steps p.tables e below (T30.setTop (mkF m 81 #[.val (.int p0), .val (.int p1), .val (.int p2), .val (.int p3), .val (.int p4), .val (.int (p0 &&& (3 : Int32))), .val (.ref b1), .val (.ref b25), .val (.int (if (p0 &&& (3 : Int32)) = (0 : Int32) then (1 : Int32) else (0 : Int32)))] [])) _
          refine XS.iconst X30.here hx rfl (hb hby at_81) ?_
          show Steps p.tables e below (T30.setTop (mkF m 82 #[.val (.int p0), .val (.int p1), .val (.int p2), .val (.int p3), .val (.int p4), .val (.int (p0 &&& (3 : Int32))), .val (.ref b1), .val (.ref b25), .val (.int (if (p0 &&& (3 : Int32)) = (0 : Int32) then (1 : Int32) else (0 : Int32)))] [(.int (1 : Int32))])) _
          refine XS.goto X30.here hx rfl (pc0 := 82) (pc' := 86) rfl (hb hby at_82) (by decide) (by decide) ?_
          exact k
        obtain ⟨fs, hrq, hrun, hended, hW, hsame⟩ := X30.leave (v := some (.int (1 : Int32))) (fun h => by rw [Bd.returns] at h; cases h)
        refine ⟨_, _, pre31 _ ?_, hrun, hended, _, _, rfl, ?_, ⟨_, rfl⟩, hW, hsame.mono (by decide) (by decide)⟩
        · show Steps p.tables e below (T30.setTop (mkF m 86 #[.val (.int p0), .val (.int p1), .val (.int p2), .val (.int p3), .val (.int p4), .val (.int (p0 &&& (3 : Int32))), .val (.ref b1), .val (.ref b25), .val (.int (if (p0 &&& (3 : Int32)) = (0 : Int32) then (1 : Int32) else (0 : Int32)))] [(.int (1 : Int32))])) _
          exact retN X30 hx (t := .boolean) Bd.returns (by simp) (hb hby at_86) hrq
        · show Q0 Z p0 p1 p2 p3 p4 h0 n0 _ T30.heap _
          rw [e30]
          exact ⟨rfl, N30⟩
    · obtain ⟨T32, h32, X32, e32, E32, A32, D32, -, st32⟩ := newO X6 hx hZ hown (hw _ (List.mem_of_getElem? (i := 1) rfl)) (hw _ (List.mem_of_getElem? (i := 2) rfl)) (hw _ (List.mem_of_getElem? (i := 3) rfl)) e6 (g := (mkF m 47 #[.val (.int p0), .val (.int p1), .val (.int p2), .val (.int p3), .val (.int p4), .val (.int (p0 &&& (3 : Int32))), .val (.ref b1), .unset, .unset] [])) rfl (hb hby at_47) (by decide) (by decide)
      obtain ⟨b32, g32⟩ : ∃ z, z = h6.size := ⟨_, rfl⟩
      rw [← g32] at A32 D32 st32
      have g_b32 : n0 ≤ b32 := Nat.le_trans Z7 (Nat.le_of_eq g32.symm)
      have Z33 : n0 ≤ h32.size := Nat.le_trans Z7 E32.1
      have F_bytes_b32 : Fld Z h32 b32 "com/example/depthwire/depthwire/EncodedFields" "bytes" "[B" .null := D32 (Or.inr (hw _ (List.mem_of_getElem? (i := 16) rfl))) (ty := (.array .byte)) (by decide)
      have F_sum_b32 : Fld Z h32 b32 "com/example/depthwire/depthwire/EncodedFields" "sum" "I" (.int (0 : Int32)) := D32 (Or.inr (hw _ (List.mem_of_getElem? (i := 18) rfl))) (ty := .int) (by decide)
      obtain ⟨_, _, ⟨T34, L34, k34, n34⟩, -, X34, ⟨Lc34, hQ34, l34, y34, z34⟩, st34⟩ := X32.specialBack hx (y := (⟨"com/example/depthwire/depthwire/EncodedFields", "<init>", "([BI)V"⟩ : MethodName)) rfl hown (mvT hZ (hw _ (List.mem_of_getElem? (i := 4) rfl))) (mvT hZ (hw _ (List.mem_of_getElem? (i := 5) rfl))) (mvT hZ (hw _ (List.mem_of_getElem? (i := 6) rfl))) (by decide) (backOf (W := 1) (rm1 l Z a0 hw [] b32 b1 p1 h32 n0 Z33 A32 F_bytes_b32 F_sum_b32 g_b32) hZ (hw _ (List.mem_of_getElem? (i := 6) rfl)) (hw _ (List.mem_of_getElem? (i := 3) rfl)) (by decide) (by decide)) (g := (mkF m 54 #[.val (.int p0), .val (.int p1), .val (.int p2), .val (.int p3), .val (.int p4), .val (.int (p0 &&& (3 : Int32))), .val (.ref b1), .unset, .unset] [(.int p1), (.ref b1), (.ref b32), (.ref b32)])) rfl (by rw [hml]; rfl) (Steps.refl _) (a := b32) (argsL := [(.ref b1), (.int p1)]) (rest := [(.ref b32)]) (lenOf pd_1 rfl) rfl (by show 2 * 0 + _ ≤ _; exact Nat.le_of_eq rfl) (hb hby at_54) (fun _ _ => ⟨rfl, e32, (by decide : 2 + 0 ≤ _), (by decide : 5 + 0 ≤ _)⟩)
      dsimp only [Pt.U, Pt.locs, Pt.cells, Pt.slots] at X34 l34 y34 z34 st34 hQ34
      subst l34 y34 z34
      obtain ⟨rfl, Nq34, Kq34, Eq34, Fq34⟩ := hQ34
      have N34 := Fr.app N6 Nq34
      have Z35 : n0 ≤ T34.heap.size := Nat.le_trans Z33 Kq34.1
      have c36 : Arv Z T34.heap b1 k1 .byte (p0 &&& (3 : Int32)) [(.int (nar .byte (p2.toInt8.toInt32))), (.int (0 : Int32)), (.int (0 : Int32))] (.int (0 : Int32)) := ((V6.ext E32).keep Kq34 (ninS (Nat.ne_of_lt (Nat.lt_of_lt_of_le (Nat.lt_of_lt_of_le V1.lt (Keep.of_wr W6).1) (Nat.le_of_eq g32.symm))) nin0))
      obtain ⟨cq37, kq37, q37a, q37b, q37c⟩ := isOf hZ rfl Eq34
      obtain ⟨_, _, ⟨T37, L37, k37, n37⟩, -, X37, ⟨Lc37, hQ37, l37, y37, z37⟩, st37⟩ := X34.virtualBack hx (y := (⟨"com/example/depthwire/depthwire/EncodedFields", "isEmpty", "()Z"⟩ : MethodName)) (z := (⟨"com/example/depthwire/depthwire/EncodedFields", "isEmpty", "()Z"⟩ : MethodName)) hown (mvT hZ (hw _ (List.mem_of_getElem? (i := 19) rfl))) (mvT hZ (hw _ (List.mem_of_getElem? (i := 20) rfl))) (notFace_of_selects (args := #[]) (mvT hZ (hw _ (List.mem_of_getElem? (i := 22) rfl)))) (mvT hZ (hw _ (List.mem_of_getElem? (i := 22) rfl))) (mvT hZ (hw _ (List.mem_of_getElem? (i := 21) rfl))) (by decide) (backOf (W := 0) (rm4 l Z a0 hw [] b32 b1 k1 (p0 &&& (3 : Int32)) [(.int (nar .byte (p2.toInt8.toInt32))), (.int (0 : Int32)), (.int (0 : Int32))] (.int (0 : Int32)) T34.heap n0 Z35 Fq34 c36) hZ (hw _ (List.mem_of_getElem? (i := 23) rfl)) (hw _ (List.mem_of_getElem? (i := 3) rfl)) (by decide) (by decide)) q37a q37c (g := (mkF m 73 #[.val (.int p0), .val (.int p1), .val (.int p2), .val (.int p3), .val (.int p4), .val (.int (p0 &&& (3 : Int32))), .val (.ref b1), .val (.ref b32), .val (.int (if (p0 &&& (3 : Int32)) = (0 : Int32) then (1 : Int32) else (0 : Int32)))] [(.ref b32)])) rfl (by rw [hml]; rfl) (Steps.refl _) (argsL := []) (rest := []) (lenOf pd_2 rfl) rfl (by show 2 * 0 + _ ≤ _; exact Nat.le_of_eq rfl) (hb hby at_73) (fun _ _ => ⟨rfl, rfl, (by decide : 2 + 0 ≤ _), (by decide : 5 + 0 ≤ _)⟩)
      dsimp only [Pt.U, Pt.locs, Pt.cells, Pt.slots] at X37 l37 y37 z37 st37 hQ37
      subst l37 y37 z37
      obtain ⟨rfl, Nq37, hh37⟩ := hQ37
      have N37 := Fr.app N34 Nq37
      have e37 : T37.heap = T34.heap := hh37
      have pre38 : ∀ t, Steps p.tables e below (T37.setTop (mkF m 86 #[.val (.int p0), .val (.int p1), .val (.int p2), .val (.int p3), .val (.int p4), .val (.int (p0 &&& (3 : Int32))), .val (.ref b1), .val (.ref b32), .val (.int (if (p0 &&& (3 : Int32)) = (0 : Int32) then (1 : Int32) else (0 : Int32)))] [(.int (1 : Int32))])) t → Steps p.tables e below (s₁.setTop (entryFrame m #[(.int p0), (.int p1), (.int p2), (.int p3), (.int p4)] maxLocals)) t := fun t k => by
        refine pre8 t ?_
        show Steps p.tables e below (T6.setTop (mkF m 25 #[.val (.int p0), .val (.int p1), .val (.int p2), .val (.int p3), .val (.int p4), .val (.int (p0 &&& (3 : Int32))), .val (.ref b1), .unset, .unset] [(.int (1 : Int32)), (.int (p0 &&& (3 : Int32)))])) _
        refine XS.icmpYes X6.here hx rfl (pc0 := 25) (pc' := 34) rfl (hb hby at_25) rfl (flt hc25_9).2.2.2 (by decide) (by decide) ?_
        show Steps p.tables e below (T6.setTop (mkF m 34 #[.val (.int p0), .val (.int p1), .val (.int p2), .val (.int p3), .val (.int p4), .val (.int (p0 &&& (3 : Int32))), .val (.ref b1), .unset, .unset] [])) _
        refine XS.iload X6.here hx rfl (hb hby at_34) rfl ?_
        show Steps p.tables e below (T6.setTop (mkF m 36 #[.val (.int p0), .val (.int p1), .val (.int p2), .val (.int p3), .val (.int p4), .val (.int (p0 &&& (3 : Int32))), .val (.ref b1), .unset, .unset] [(.int (p0 &&& (3 : Int32)))])) _
        refine XS.iconst X6.here hx rfl (hb hby at_36) ?_
        show Steps p.tables e below (T6.setTop (mkF m 37 #[.val (.int p0), .val (.int p1), .val (.int p2), .val (.int p3), .val (.int p4), .val (.int (p0 &&& (3 : Int32))), .val (.ref b1), .unset, .unset] [(.int (2 : Int32)), (.int (p0 &&& (3 : Int32)))])) _
        refine XS.icmpYes X6.here hx rfl (pc0 := 37) (pc' := 47) rfl (hb hby at_37) rfl (flt (own_s2 hc25_9 : ¬ ((2 : Int32) < (p0 &&& (3 : Int32))))).2.2.2 (by decide) (by decide) ?_
        show Steps p.tables e below (T6.setTop (mkF m 47 #[.val (.int p0), .val (.int p1), .val (.int p2), .val (.int p3), .val (.int p4), .val (.int (p0 &&& (3 : Int32))), .val (.ref b1), .unset, .unset] [])) _
        refine st32 _ ?_
        show Steps p.tables e below (T32.setTop (mkF m 50 #[.val (.int p0), .val (.int p1), .val (.int p2), .val (.int p3), .val (.int p4), .val (.int (p0 &&& (3 : Int32))), .val (.ref b1), .unset, .unset] [(.ref b32)])) _
        refine XS.dup X32.here hx rfl (hb hby at_50) rfl rfl ?_
        show Steps p.tables e below (T32.setTop (mkF m 51 #[.val (.int p0), .val (.int p1), .val (.int p2), .val (.int p3), .val (.int p4), .val (.int (p0 &&& (3 : Int32))), .val (.ref b1), .unset, .unset] [(.ref b32), (.ref b32)])) _
        refine XS.aload X32.here hx rfl (hb hby at_51) rfl rfl ?_
        show Steps p.tables e below (T32.setTop (mkF m 53 #[.val (.int p0), .val (.int p1), .val (.int p2), .val (.int p3), .val (.int p4), .val (.int (p0 &&& (3 : Int32))), .val (.ref b1), .unset, .unset] [(.ref b1), (.ref b32), (.ref b32)])) _
        refine XS.iloadN X32.here hx rfl (hb hby at_53) rfl ?_
        show Steps p.tables e below (T32.setTop (mkF m 54 #[.val (.int p0), .val (.int p1), .val (.int p2), .val (.int p3), .val (.int p4), .val (.int (p0 &&& (3 : Int32))), .val (.ref b1), .unset, .unset] [(.int p1), (.ref b1), (.ref b32), (.ref b32)])) _
        refine st34.trans ?_
        show Steps p.tables e below (T34.setTop (mkF m 57 #[.val (.int p0), .val (.int p1), .val (.int p2), .val (.int p3), .val (.int p4), .val (.int (p0 &&& (3 : Int32))), .val (.ref b1), .unset, .unset] [(.ref b32)])) _
        refine XS.astore X34.here hx rfl (hb hby at_57) rfl rfl (l' := #[.val (.int p0), .val (.int p1), .val (.int p2), .val (.int p3), .val (.int p4), .val (.int (p0 &&& (3 : Int32))), .val (.ref b1), .val (.ref b32), .unset]) rfl ?_
        show Steps p.tables e below (T34.setTop (mkF m 59 #[.val (.int p0), .val (.int p1), .val (.int p2), .val (.int p3), .val (.int p4), .val (.int (p0 &&& (3 : Int32))), .val (.ref b1), .val (.ref b32), .unset] [])) _
        refine XS.iload X34.here hx rfl (hb hby at_59) rfl ?_
        show Steps p.tables e below (T34.setTop (mkF m 61 #[.val (.int p0), .val (.int p1), .val (.int p2), .val (.int p3), .val (.int p4), .val (.int (p0 &&& (3 : Int32))), .val (.ref b1), .val (.ref b32), .unset] [(.int (p0 &&& (3 : Int32)))])) _
        refine own_boolI (g := (mkF m 61 #[.val (.int p0), .val (.int p1), .val (.int p2), .val (.int p3), .val (.int p4), .val (.int (p0 &&& (3 : Int32))), .val (.ref b1), .val (.ref b32), .unset] [(.int (p0 &&& (3 : Int32)))])) X34.here hx rfl (hb hby at_61) (hb hby at_64) (hb hby at_65) (hb hby at_68) rfl (by exact own_b_ne _ _) ?_
        show Steps p.tables e below (T34.setTop (mkF m 69 #[.val (.int p0), .val (.int p1), .val (.int p2), .val (.int p3), .val (.int p4), .val (.int (p0 &&& (3 : Int32))), .val (.ref b1), .val (.ref b32), .unset] [(.int (if (p0 &&& (3 : Int32)) = (0 : Int32) then (1 : Int32) else (0 : Int32)))])) _
        refine XS.istore X34.here hx rfl (hb hby at_69) rfl (l' := #[.val (.int p0), .val (.int p1), .val (.int p2), .val (.int p3), .val (.int p4), .val (.int (p0 &&& (3 : Int32))), .val (.ref b1), .val (.ref b32), .val (.int (if (p0 &&& (3 : Int32)) = (0 : Int32) then (1 : Int32) else (0 : Int32)))]) rfl ?_
        show Steps p.tables e below (T34.setTop (mkF m 71 #[.val (.int p0), .val (.int p1), .val (.int p2), .val (.int p3), .val (.int p4), .val (.int (p0 &&& (3 : Int32))), .val (.ref b1), .val (.ref b32), .val (.int (if (p0 &&& (3 : Int32)) = (0 : Int32) then (1 : Int32) else (0 : Int32)))] [])) _
        refine XS.aload X34.here hx rfl (hb hby at_71) rfl rfl ?_
        show Steps p.tables e below (T34.setTop (mkF m 73 #[.val (.int p0), .val (.int p1), .val (.int p2), .val (.int p3), .val (.int p4), .val (.int (p0 &&& (3 : Int32))), .val (.ref b1), .val (.ref b32), .val (.int (if (p0 &&& (3 : Int32)) = (0 : Int32) then (1 : Int32) else (0 : Int32)))] [(.ref b32)])) _
        refine st37.trans ?_
        show Steps p.tables e below (T37.setTop (mkF m 76 #[.val (.int p0), .val (.int p1), .val (.int p2), .val (.int p3), .val (.int p4), .val (.int (p0 &&& (3 : Int32))), .val (.ref b1), .val (.ref b32), .val (.int (if (p0 &&& (3 : Int32)) = (0 : Int32) then (1 : Int32) else (0 : Int32)))] [(.int (if (p0 &&& (3 : Int32)) = (0 : Int32) then (1 : Int32) else (0 : Int32)))])) _
        refine XS.iload X37.here hx rfl (hb hby at_76) rfl ?_
        show Steps p.tables e below (T37.setTop (mkF m 78 #[.val (.int p0), .val (.int p1), .val (.int p2), .val (.int p3), .val (.int p4), .val (.int (p0 &&& (3 : Int32))), .val (.ref b1), .val (.ref b32), .val (.int (if (p0 &&& (3 : Int32)) = (0 : Int32) then (1 : Int32) else (0 : Int32)))] [(.int (if (p0 &&& (3 : Int32)) = (0 : Int32) then (1 : Int32) else (0 : Int32))), (.int (if (p0 &&& (3 : Int32)) = (0 : Int32) then (1 : Int32) else (0 : Int32)))])) _
        refine XS.icmpNo X37.here hx rfl (hb hby at_78) rfl (teq (rfl : (if (p0 &&& (3 : Int32)) = (0 : Int32) then (1 : Int32) else (0 : Int32)) = (if (p0 &&& (3 : Int32)) = (0 : Int32) then (1 : Int32) else (0 : Int32)))).2 ?_
        show Steps p.tables e below (T37.setTop (mkF m 81 #[.val (.int p0), .val (.int p1), .val (.int p2), .val (.int p3), .val (.int p4), .val (.int (p0 &&& (3 : Int32))), .val (.ref b1), .val (.ref b32), .val (.int (if (p0 &&& (3 : Int32)) = (0 : Int32) then (1 : Int32) else (0 : Int32)))] [])) _
        refine XS.iconst X37.here hx rfl (hb hby at_81) ?_
        show Steps p.tables e below (T37.setTop (mkF m 82 #[.val (.int p0), .val (.int p1), .val (.int p2), .val (.int p3), .val (.int p4), .val (.int (p0 &&& (3 : Int32))), .val (.ref b1), .val (.ref b32), .val (.int (if (p0 &&& (3 : Int32)) = (0 : Int32) then (1 : Int32) else (0 : Int32)))] [(.int (1 : Int32))])) _
        refine XS.goto X37.here hx rfl (pc0 := 82) (pc' := 86) rfl (hb hby at_82) (by decide) (by decide) ?_
        exact k
      obtain ⟨fs, hrq, hrun, hended, hW, hsame⟩ := X37.leave (v := some (.int (1 : Int32))) (fun h => by rw [Bd.returns] at h; cases h)
      refine ⟨_, _, pre38 _ ?_, hrun, hended, _, _, rfl, ?_, ⟨_, rfl⟩, hW, hsame.mono (by decide) (by decide)⟩
      · show Steps p.tables e below (T37.setTop (mkF m 86 #[.val (.int p0), .val (.int p1), .val (.int p2), .val (.int p3), .val (.int p4), .val (.int (p0 &&& (3 : Int32))), .val (.ref b1), .val (.ref b32), .val (.int (if (p0 &&& (3 : Int32)) = (0 : Int32) then (1 : Int32) else (0 : Int32)))] [(.int (1 : Int32))])) _
        exact retN X37 hx (t := .boolean) Bd.returns (by simp) (hb hby at_86) hrq
      · show Q0 Z p0 p1 p2 p3 p4 h0 n0 _ T37.heap _
        rw [e37]
        exact ⟨rfl, N37⟩
  · obtain ⟨T39, h39, X39, e39, E39, A39, D39, -, st39⟩ := newO X1 hx hZ hown (hw _ (List.mem_of_getElem? (i := 1) rfl)) (hw _ (List.mem_of_getElem? (i := 2) rfl)) (hw _ (List.mem_of_getElem? (i := 3) rfl)) e1 (g := (mkF m 47 #[.val (.int p0), .val (.int p1), .val (.int p2), .val (.int p3), .val (.int p4), .val (.int (p0 &&& (3 : Int32))), .val (.ref b1), .unset, .unset] [])) rfl (hb hby at_47) (by decide) (by decide)
    obtain ⟨b39, g39⟩ : ∃ z, z = h1.size := ⟨_, rfl⟩
    rw [← g39] at A39 D39 st39
    have g_b39 : n0 ≤ b39 := Nat.le_trans Z2 (Nat.le_of_eq g39.symm)
    have Z40 : n0 ≤ h39.size := Nat.le_trans Z2 E39.1
    have F_bytes_b39 : Fld Z h39 b39 "com/example/depthwire/depthwire/EncodedFields" "bytes" "[B" .null := D39 (Or.inr (hw _ (List.mem_of_getElem? (i := 16) rfl))) (ty := (.array .byte)) (by decide)
    have F_sum_b39 : Fld Z h39 b39 "com/example/depthwire/depthwire/EncodedFields" "sum" "I" (.int (0 : Int32)) := D39 (Or.inr (hw _ (List.mem_of_getElem? (i := 18) rfl))) (ty := .int) (by decide)
    obtain ⟨_, _, ⟨T41, L41, k41, n41⟩, -, X41, ⟨Lc41, hQ41, l41, y41, z41⟩, st41⟩ := X39.specialBack hx (y := (⟨"com/example/depthwire/depthwire/EncodedFields", "<init>", "([BI)V"⟩ : MethodName)) rfl hown (mvT hZ (hw _ (List.mem_of_getElem? (i := 4) rfl))) (mvT hZ (hw _ (List.mem_of_getElem? (i := 5) rfl))) (mvT hZ (hw _ (List.mem_of_getElem? (i := 6) rfl))) (by decide) (backOf (W := 1) (rm1 l Z a0 hw [] b39 b1 p1 h39 n0 Z40 A39 F_bytes_b39 F_sum_b39 g_b39) hZ (hw _ (List.mem_of_getElem? (i := 6) rfl)) (hw _ (List.mem_of_getElem? (i := 3) rfl)) (by decide) (by decide)) (g := (mkF m 54 #[.val (.int p0), .val (.int p1), .val (.int p2), .val (.int p3), .val (.int p4), .val (.int (p0 &&& (3 : Int32))), .val (.ref b1), .unset, .unset] [(.int p1), (.ref b1), (.ref b39), (.ref b39)])) rfl (by rw [hml]; rfl) (Steps.refl _) (a := b39) (argsL := [(.ref b1), (.int p1)]) (rest := [(.ref b39)]) (lenOf pd_1 rfl) rfl (by show 2 * 0 + _ ≤ _; exact Nat.le_of_eq rfl) (hb hby at_54) (fun _ _ => ⟨rfl, e39, (by decide : 2 + 0 ≤ _), (by decide : 5 + 0 ≤ _)⟩)
    dsimp only [Pt.U, Pt.locs, Pt.cells, Pt.slots] at X41 l41 y41 z41 st41 hQ41
    subst l41 y41 z41
    obtain ⟨rfl, Nq41, Kq41, Eq41, Fq41⟩ := hQ41
    have N41 := Fr.app N0 Nq41
    have Z42 : n0 ≤ T41.heap.size := Nat.le_trans Z40 Kq41.1
    have c43 : Arv Z T41.heap b1 k1 .byte (p0 &&& (3 : Int32)) [(.int (0 : Int32)), (.int (0 : Int32)), (.int (0 : Int32))] (.int (0 : Int32)) := ((V1.ext E39).keep Kq41 (ninS (Nat.ne_of_lt (Nat.lt_of_lt_of_le V1.lt (Nat.le_of_eq g39.symm))) nin0))
    obtain ⟨cq44, kq44, q44a, q44b, q44c⟩ := isOf hZ rfl Eq41
    obtain ⟨_, _, ⟨T44, L44, k44, n44⟩, -, X44, ⟨Lc44, hQ44, l44, y44, z44⟩, st44⟩ := X41.virtualBack hx (y := (⟨"com/example/depthwire/depthwire/EncodedFields", "isEmpty", "()Z"⟩ : MethodName)) (z := (⟨"com/example/depthwire/depthwire/EncodedFields", "isEmpty", "()Z"⟩ : MethodName)) hown (mvT hZ (hw _ (List.mem_of_getElem? (i := 19) rfl))) (mvT hZ (hw _ (List.mem_of_getElem? (i := 20) rfl))) (notFace_of_selects (args := #[]) (mvT hZ (hw _ (List.mem_of_getElem? (i := 22) rfl)))) (mvT hZ (hw _ (List.mem_of_getElem? (i := 22) rfl))) (mvT hZ (hw _ (List.mem_of_getElem? (i := 21) rfl))) (by decide) (backOf (W := 0) (rm4 l Z a0 hw [] b39 b1 k1 (p0 &&& (3 : Int32)) [(.int (0 : Int32)), (.int (0 : Int32)), (.int (0 : Int32))] (.int (0 : Int32)) T41.heap n0 Z42 Fq41 c43) hZ (hw _ (List.mem_of_getElem? (i := 23) rfl)) (hw _ (List.mem_of_getElem? (i := 3) rfl)) (by decide) (by decide)) q44a q44c (g := (mkF m 73 #[.val (.int p0), .val (.int p1), .val (.int p2), .val (.int p3), .val (.int p4), .val (.int (p0 &&& (3 : Int32))), .val (.ref b1), .val (.ref b39), .val (.int (if (p0 &&& (3 : Int32)) = (0 : Int32) then (1 : Int32) else (0 : Int32)))] [(.ref b39)])) rfl (by rw [hml]; rfl) (Steps.refl _) (argsL := []) (rest := []) (lenOf pd_2 rfl) rfl (by show 2 * 0 + _ ≤ _; exact Nat.le_of_eq rfl) (hb hby at_73) (fun _ _ => ⟨rfl, rfl, (by decide : 2 + 0 ≤ _), (by decide : 5 + 0 ≤ _)⟩)
    dsimp only [Pt.U, Pt.locs, Pt.cells, Pt.slots] at X44 l44 y44 z44 st44 hQ44
    subst l44 y44 z44
    obtain ⟨rfl, Nq44, hh44⟩ := hQ44
    have N44 := Fr.app N41 Nq44
    have e44 : T44.heap = T41.heap := hh44
    have pre45 : ∀ t, Steps p.tables e below (T44.setTop (mkF m 86 #[.val (.int p0), .val (.int p1), .val (.int p2), .val (.int p3), .val (.int p4), .val (.int (p0 &&& (3 : Int32))), .val (.ref b1), .val (.ref b39), .val (.int (if (p0 &&& (3 : Int32)) = (0 : Int32) then (1 : Int32) else (0 : Int32)))] [(.int (1 : Int32))])) t → Steps p.tables e below (s₁.setTop (entryFrame m #[(.int p0), (.int p1), (.int p2), (.int p3), (.int p4)] maxLocals)) t := fun t k => by
      refine pre3 t ?_
      show Steps p.tables e below (T1.setTop (mkF m 13 #[.val (.int p0), .val (.int p1), .val (.int p2), .val (.int p3), .val (.int p4), .val (.int (p0 &&& (3 : Int32))), .val (.ref b1), .unset, .unset] [(.int (p0 &&& (3 : Int32)))])) _
      refine XS.ifYes X1.here hx rfl (pc0 := 13) (pc' := 22) rfl (hb hby at_13) rfl ((if0 _ _).trans (flt hc13_4).2.2.2) (by decide) (by decide) ?_
      show Steps p.tables e below (T1.setTop (mkF m 22 #[.val (.int p0), .val (.int p1), .val (.int p2), .val (.int p3), .val (.int p4), .val (.int (p0 &&& (3 : Int32))), .val (.ref b1), .unset, .unset] [])) _
      refine XS.iload X1.here hx rfl (hb hby at_22) rfl ?_
      show Steps p.tables e below (T1.setTop (mkF m 24 #[.val (.int p0), .val (.int p1), .val (.int p2), .val (.int p3), .val (.int p4), .val (.int (p0 &&& (3 : Int32))), .val (.ref b1), .unset, .unset] [(.int (p0 &&& (3 : Int32)))])) _
      refine XS.iconst X1.here hx rfl (hb hby at_24) ?_
      show Steps p.tables e below (T1.setTop (mkF m 25 #[.val (.int p0), .val (.int p1), .val (.int p2), .val (.int p3), .val (.int p4), .val (.int (p0 &&& (3 : Int32))), .val (.ref b1), .unset, .unset] [(.int (1 : Int32)), (.int (p0 &&& (3 : Int32)))])) _
      refine XS.icmpYes X1.here hx rfl (pc0 := 25) (pc' := 34) rfl (hb hby at_25) rfl (flt (own_s1 hc13_4 : ¬ ((1 : Int32) < (p0 &&& (3 : Int32))))).2.2.2 (by decide) (by decide) ?_
      show Steps p.tables e below (T1.setTop (mkF m 34 #[.val (.int p0), .val (.int p1), .val (.int p2), .val (.int p3), .val (.int p4), .val (.int (p0 &&& (3 : Int32))), .val (.ref b1), .unset, .unset] [])) _
      refine XS.iload X1.here hx rfl (hb hby at_34) rfl ?_
      show Steps p.tables e below (T1.setTop (mkF m 36 #[.val (.int p0), .val (.int p1), .val (.int p2), .val (.int p3), .val (.int p4), .val (.int (p0 &&& (3 : Int32))), .val (.ref b1), .unset, .unset] [(.int (p0 &&& (3 : Int32)))])) _
      refine XS.iconst X1.here hx rfl (hb hby at_36) ?_
      show Steps p.tables e below (T1.setTop (mkF m 37 #[.val (.int p0), .val (.int p1), .val (.int p2), .val (.int p3), .val (.int p4), .val (.int (p0 &&& (3 : Int32))), .val (.ref b1), .unset, .unset] [(.int (2 : Int32)), (.int (p0 &&& (3 : Int32)))])) _
      refine XS.icmpYes X1.here hx rfl (pc0 := 37) (pc' := 47) rfl (hb hby at_37) rfl (flt (own_s2 (own_s1 hc13_4) : ¬ ((2 : Int32) < (p0 &&& (3 : Int32))))).2.2.2 (by decide) (by decide) ?_
      show Steps p.tables e below (T1.setTop (mkF m 47 #[.val (.int p0), .val (.int p1), .val (.int p2), .val (.int p3), .val (.int p4), .val (.int (p0 &&& (3 : Int32))), .val (.ref b1), .unset, .unset] [])) _
      refine st39 _ ?_
      show Steps p.tables e below (T39.setTop (mkF m 50 #[.val (.int p0), .val (.int p1), .val (.int p2), .val (.int p3), .val (.int p4), .val (.int (p0 &&& (3 : Int32))), .val (.ref b1), .unset, .unset] [(.ref b39)])) _
      refine XS.dup X39.here hx rfl (hb hby at_50) rfl rfl ?_
      show Steps p.tables e below (T39.setTop (mkF m 51 #[.val (.int p0), .val (.int p1), .val (.int p2), .val (.int p3), .val (.int p4), .val (.int (p0 &&& (3 : Int32))), .val (.ref b1), .unset, .unset] [(.ref b39), (.ref b39)])) _
      refine XS.aload X39.here hx rfl (hb hby at_51) rfl rfl ?_
      show Steps p.tables e below (T39.setTop (mkF m 53 #[.val (.int p0), .val (.int p1), .val (.int p2), .val (.int p3), .val (.int p4), .val (.int (p0 &&& (3 : Int32))), .val (.ref b1), .unset, .unset] [(.ref b1), (.ref b39), (.ref b39)])) _
      refine XS.iloadN X39.here hx rfl (hb hby at_53) rfl ?_
      show Steps p.tables e below (T39.setTop (mkF m 54 #[.val (.int p0), .val (.int p1), .val (.int p2), .val (.int p3), .val (.int p4), .val (.int (p0 &&& (3 : Int32))), .val (.ref b1), .unset, .unset] [(.int p1), (.ref b1), (.ref b39), (.ref b39)])) _
      refine st41.trans ?_
      show Steps p.tables e below (T41.setTop (mkF m 57 #[.val (.int p0), .val (.int p1), .val (.int p2), .val (.int p3), .val (.int p4), .val (.int (p0 &&& (3 : Int32))), .val (.ref b1), .unset, .unset] [(.ref b39)])) _
      refine XS.astore X41.here hx rfl (hb hby at_57) rfl rfl (l' := #[.val (.int p0), .val (.int p1), .val (.int p2), .val (.int p3), .val (.int p4), .val (.int (p0 &&& (3 : Int32))), .val (.ref b1), .val (.ref b39), .unset]) rfl ?_
      show Steps p.tables e below (T41.setTop (mkF m 59 #[.val (.int p0), .val (.int p1), .val (.int p2), .val (.int p3), .val (.int p4), .val (.int (p0 &&& (3 : Int32))), .val (.ref b1), .val (.ref b39), .unset] [])) _
      refine XS.iload X41.here hx rfl (hb hby at_59) rfl ?_
      show Steps p.tables e below (T41.setTop (mkF m 61 #[.val (.int p0), .val (.int p1), .val (.int p2), .val (.int p3), .val (.int p4), .val (.int (p0 &&& (3 : Int32))), .val (.ref b1), .val (.ref b39), .unset] [(.int (p0 &&& (3 : Int32)))])) _
      refine own_boolI (g := (mkF m 61 #[.val (.int p0), .val (.int p1), .val (.int p2), .val (.int p3), .val (.int p4), .val (.int (p0 &&& (3 : Int32))), .val (.ref b1), .val (.ref b39), .unset] [(.int (p0 &&& (3 : Int32)))])) X41.here hx rfl (hb hby at_61) (hb hby at_64) (hb hby at_65) (hb hby at_68) rfl (by exact own_b_ne _ _) ?_
      show Steps p.tables e below (T41.setTop (mkF m 69 #[.val (.int p0), .val (.int p1), .val (.int p2), .val (.int p3), .val (.int p4), .val (.int (p0 &&& (3 : Int32))), .val (.ref b1), .val (.ref b39), .unset] [(.int (if (p0 &&& (3 : Int32)) = (0 : Int32) then (1 : Int32) else (0 : Int32)))])) _
      refine XS.istore X41.here hx rfl (hb hby at_69) rfl (l' := #[.val (.int p0), .val (.int p1), .val (.int p2), .val (.int p3), .val (.int p4), .val (.int (p0 &&& (3 : Int32))), .val (.ref b1), .val (.ref b39), .val (.int (if (p0 &&& (3 : Int32)) = (0 : Int32) then (1 : Int32) else (0 : Int32)))]) rfl ?_
      show Steps p.tables e below (T41.setTop (mkF m 71 #[.val (.int p0), .val (.int p1), .val (.int p2), .val (.int p3), .val (.int p4), .val (.int (p0 &&& (3 : Int32))), .val (.ref b1), .val (.ref b39), .val (.int (if (p0 &&& (3 : Int32)) = (0 : Int32) then (1 : Int32) else (0 : Int32)))] [])) _
      refine XS.aload X41.here hx rfl (hb hby at_71) rfl rfl ?_
      show Steps p.tables e below (T41.setTop (mkF m 73 #[.val (.int p0), .val (.int p1), .val (.int p2), .val (.int p3), .val (.int p4), .val (.int (p0 &&& (3 : Int32))), .val (.ref b1), .val (.ref b39), .val (.int (if (p0 &&& (3 : Int32)) = (0 : Int32) then (1 : Int32) else (0 : Int32)))] [(.ref b39)])) _
      refine st44.trans ?_
      show Steps p.tables e below (T44.setTop (mkF m 76 #[.val (.int p0), .val (.int p1), .val (.int p2), .val (.int p3), .val (.int p4), .val (.int (p0 &&& (3 : Int32))), .val (.ref b1), .val (.ref b39), .val (.int (if (p0 &&& (3 : Int32)) = (0 : Int32) then (1 : Int32) else (0 : Int32)))] [(.int (if (p0 &&& (3 : Int32)) = (0 : Int32) then (1 : Int32) else (0 : Int32)))])) _
      refine XS.iload X44.here hx rfl (hb hby at_76) rfl ?_
      show Steps p.tables e below (T44.setTop (mkF m 78 #[.val (.int p0), .val (.int p1), .val (.int p2), .val (.int p3), .val (.int p4), .val (.int (p0 &&& (3 : Int32))), .val (.ref b1), .val (.ref b39), .val (.int (if (p0 &&& (3 : Int32)) = (0 : Int32) then (1 : Int32) else (0 : Int32)))] [(.int (if (p0 &&& (3 : Int32)) = (0 : Int32) then (1 : Int32) else (0 : Int32))), (.int (if (p0 &&& (3 : Int32)) = (0 : Int32) then (1 : Int32) else (0 : Int32)))])) _
      refine XS.icmpNo X44.here hx rfl (hb hby at_78) rfl (teq (rfl : (if (p0 &&& (3 : Int32)) = (0 : Int32) then (1 : Int32) else (0 : Int32)) = (if (p0 &&& (3 : Int32)) = (0 : Int32) then (1 : Int32) else (0 : Int32)))).2 ?_
      show Steps p.tables e below (T44.setTop (mkF m 81 #[.val (.int p0), .val (.int p1), .val (.int p2), .val (.int p3), .val (.int p4), .val (.int (p0 &&& (3 : Int32))), .val (.ref b1), .val (.ref b39), .val (.int (if (p0 &&& (3 : Int32)) = (0 : Int32) then (1 : Int32) else (0 : Int32)))] [])) _
      refine XS.iconst X44.here hx rfl (hb hby at_81) ?_
      show Steps p.tables e below (T44.setTop (mkF m 82 #[.val (.int p0), .val (.int p1), .val (.int p2), .val (.int p3), .val (.int p4), .val (.int (p0 &&& (3 : Int32))), .val (.ref b1), .val (.ref b39), .val (.int (if (p0 &&& (3 : Int32)) = (0 : Int32) then (1 : Int32) else (0 : Int32)))] [(.int (1 : Int32))])) _
      refine XS.goto X44.here hx rfl (pc0 := 82) (pc' := 86) rfl (hb hby at_82) (by decide) (by decide) ?_
      exact k
    obtain ⟨fs, hrq, hrun, hended, hW, hsame⟩ := X44.leave (v := some (.int (1 : Int32))) (fun h => by rw [Bd.returns] at h; cases h)
    refine ⟨_, _, pre45 _ ?_, hrun, hended, _, _, rfl, ?_, ⟨_, rfl⟩, hW, hsame.mono (by decide) (by decide)⟩
    · show Steps p.tables e below (T44.setTop (mkF m 86 #[.val (.int p0), .val (.int p1), .val (.int p2), .val (.int p3), .val (.int p4), .val (.int (p0 &&& (3 : Int32))), .val (.ref b1), .val (.ref b39), .val (.int (if (p0 &&& (3 : Int32)) = (0 : Int32) then (1 : Int32) else (0 : Int32)))] [(.int (1 : Int32))])) _
      exact retN X44 hx (t := .boolean) Bd.returns (by simp) (hb hby at_86) hrq
    · show Q0 Z p0 p1 p2 p3 p4 h0 n0 _ T44.heap _
      rw [e44]
      exact ⟨rfl, N44⟩
set_option maxRecDepth 65536 in
set_option maxHeartbeats 40000000 in
theorem comes_1 {Post : Tables → Env → Array Value → State → Outcome → State → Prop} (hpost : ∀ tb e args s v u, (limb_1_1.after args s (.returned v) u = true ∧ limb_1_2.after args s (.returned v) u = true ∧ True) → FrameEnd s (.returned v) u (Jvm.fieldLocs frame_1_writes args s ++ Jvm.arrayLocs frame_1_arrays args s ++ Jvm.staticLocs frame_1_statics s) 16 128 → Post tb e args s (.returned v) u) :
    ArmFor flags0 classFile x code maxLocals ret World_1 tables_1 room_1 Calls_1 rest_1 Pre_1 Post := by
  intro l hfl _ _ p e ha hc hk s m args below hf hA hF happ hP
  obtain ⟨hcalls, hrest, hpre⟩ := hP
  obtain ⟨-, -, -, hnamed, -, -, -, hat⟩ := (Spec.applies_iff hf).mp happ
  obtain ⟨hg, hn⟩ := and_e (Cond.before_iff.mp (show (Jvm.Cond.and given_1 narrow_1).before args s = true from hpre))
  obtain ⟨gc, g0⟩ := and_e hg
  obtain ⟨ga0, g1⟩ := and_e g0
  obtain ⟨ga1, g2⟩ := and_e g1
  obtain ⟨ga2, g3⟩ := and_e g2
  obtain ⟨ga3, g4⟩ := and_e g3
  have ga4 := g4
  obtain ⟨w0, w1, w2, w3, w4, rfl⟩ : ∃ w0 w1 w2 w3 w4 : Value, args = #[w0, w1, w2, w3, w4] := by
    have hs : args.size = 5 := by simpa [Cond.value, given_1] using gc
    obtain ⟨L⟩ := args
    match L, hs with
    | [w0, w1, w2, w3, w4], _ => exact ⟨w0, w1, w2, w3, w4, rfl⟩
  have hw := fun d (hd : d ∈ tables_1) => atoms_spec (ws := Jvm.Cond.code x code maxLocals ret :: tables_1) hat d (List.mem_cons_of_mem _ hd)
  have hfit : Fit s := fun {y c} hc i hi => by
    obtain ⟨ha, rfl⟩ := Array.getElem?_eq_some_iff.mp hc
    have q := List.all_eq_true.mp ((Array.all_eq_true_iff_forall_mem.mp hF) _ (Array.getElem_mem ha)) i (List.mem_range.mpr hi)
    simpa [Array.getElem?_eq_getElem hi] using q
  obtain ⟨i0, ei0⟩ := is_v ga0
  obtain rfl : w0 = (.int i0) := Option.some.inj ei0
  obtain ⟨i1, ei1⟩ := is_v ga1
  obtain rfl : w1 = (.int i1) := Option.some.inj ei1
  obtain ⟨i2, ei2⟩ := is_v ga2
  obtain rfl : w2 = (.int i2) := Option.some.inj ei2
  obtain ⟨i3, ei3⟩ := is_v ga3
  obtain rfl : w3 = (.int i3) := Option.some.inj ei3
  obtain ⟨i4, ei4⟩ := is_v ga4
  obtain rfl : w4 = (.int i4) := Option.some.inj ei4
  obtain ⟨n, o, h1, h2, h3, _, L, rfl, ⟨rfl, N⟩, hq⟩ := rm0 l s _ hw tables_1 i0 i1 i2 i3 i4  s.heap s.heap.size (Nat.le_refl _)  p e ha hc hk s m _ below hf ((Spec.applies_iff_loose hf).mp happ).1 ⟨rfl, State.Warmed39.refl s, rfl⟩ trivial
  refine ⟨n, _, h1, h2, h3, hpost _ _ _ _ _ _ ⟨Cond.after_iff.mpr rfl, Cond.after_iff.mpr (eq_i res_at (Term.int_eval (1)) rfl), trivial⟩ ⟨hq.1, hq.2.1, (hq.2.2.sift fun y hy => Or.inr (N y hy)).mono (by decide) (by decide)⟩⟩
theorem main_1_1 : Claimed_1_1 := comes_1 fun _ _ _ _ _ _ h hF => ⟨h.1, hF⟩
theorem main_1_2 : Claimed_1_2 := comes_1 fun _ _ _ _ _ _ h hF => ⟨h.2.1, hF⟩
end Jvm.Pilot.@@N@@
namespace Jvm.Pilot.@@N@@
open Jvm Jvm.ClassFile Sem Op Lib Jvm.Free Jvm.Stand Jvm.Pilot.@@N@@.Jvm.D
/-! MADE BY PROGRAM (witnessworld.py) out of the Statement's table words and the real class files: 10 classes; the members and pool entries that the words name. The judged class is class 1, her method 1. -/
namespace start1
open Jvm.ClassFile
def u (s : String) : CpInfo := .utf8 (stringToUtf16 s)
/-- a pool by its gaps: so many unusable entries, then the entry; so many at the end -/
def gap : Nat → List CpInfo → List CpInfo
  | 0, r => r
  | n + 1, r => .unusable :: gap n r
def poolList (es : List (Nat × CpInfo)) (last : Nat) : List CpInfo := es.foldr (fun e r => gap e.1 (e.2 :: r)) (gap last [])
def pool (es : List (Nat × CpInfo)) (last : Nat) : Array CpInfo := ⟨poolList es last⟩
def fileOf (pool : Array CpInfo) (this : Nat) (attrs : Array Attribute := #[]) (ms : Array MethodInfo := #[]) (fl : Nat := 33) (sup : Nat := 0) (ifs : Array Nat := #[]) (fds : Array FieldInfo := #[]) : ClassFile where
  minorVersion := 0
  majorVersion := 65
  constantPool := pool
  accessFlags := fl
  thisClass := this
  superClass := sup
  interfaces := ifs
  fields := fds
  methods := ms
  attributes := attrs
def plain (name : String) (sup : Option ClassId) : Class where
  name := name
  kind := .ordinary
  loader := none
  accessFlags := 33
  super := sup
  interfaces := #[]
  cf := none
  fields := #[]
  methods := #[]
  instanceTypes := #[]
  staticTypes := #[]
  resolved := #[]
  callSites := []
  init := .initialized
  statics := none
  mirror := none

def pool0 : Array CpInfo := pool [(5, u "<init>"), (0, u "()V"), (1, .class_ 10), (1, u "java/lang/Object")] 113

def k0c0 : Code := { maxStack := 0, maxLocals := 1, code := object_method_1_code, exceptionTable := #[], attributes := #[] }
def k0m0 : Method := { name := "<init>", desc := "()V", sig := { parameters := [], returnType := none }, accessFlags := 1, code := some k0c0 }
/-- java/lang/Object -/
def k0 : Class := { plain "java/lang/Object" none with
  accessFlags := 33
  interfaces := #[]
  cf := some (fileOf pool0 8 #[] #[{ accessFlags := 1, nameIndex := 5, descriptorIndex := 6, attributes := #[] }] 33 0 #[] #[])
  fields := #[]
  methods := #[k0m0]
  instanceTypes := #[]
  staticTypes := #[]
  resolved := Array.replicate 124 none
  statics := none }

def pool1 : Array CpInfo := pool [(2, .class_ 4), (1, u "java/lang/Object"), (0, u "<init>"), (0, u "()V"), (0, .class_ 8), (0, u "com/example/depthwire/depthwire/EncodedFields"), (0, .methodref 7 10), (0, .nameAndType 5 11), (0, u "([BI)V"), (0, .methodref 7 13), (0, .nameAndType 14 15), (0, u "isEmpty"), (0, u "()Z"), (0, .class_ 17), (0, u "com/example/depthwire/depthwire/EncodedFieldsIsEmptyPinLaw"), (2, u "law"), (0, u "(IIIII)Z")] 5

def k1m0 : Method := { name := "<init>", desc := "()V", sig := { parameters := [], returnType := none }, accessFlags := 1, code := none }
def k1c1 : Code := { maxStack := 4, maxLocals := 9, code := code, exceptionTable := #[], attributes := #[] }
def k1m1 : Method := { name := "law", desc := "(IIIII)Z", sig := { parameters := [.int, .int, .int, .int, .int], returnType := some .boolean }, accessFlags := 9, code := some k1c1 }
/-- com/example/depthwire/depthwire/EncodedFieldsIsEmptyPinLaw -/
def k1 : Class := { plain "com/example/depthwire/depthwire/EncodedFieldsIsEmptyPinLaw" (some 0) with
  accessFlags := 49
  interfaces := #[]
  cf := some (fileOf pool1 16 #[] #[{ accessFlags := 1, nameIndex := 5, descriptorIndex := 6, attributes := #[] }, { accessFlags := 9, nameIndex := 20, descriptorIndex := 21, attributes := #[] }] 49 2 #[] #[])
  fields := #[]
  methods := #[k1m0, k1m1]
  instanceTypes := #[]
  staticTypes := #[]
  resolved := Array.replicate 27 none
  statics := none }

def pool2 : Array CpInfo := pool [(1, .methodref 2 3), (0, .class_ 4), (0, .nameAndType 5 6), (0, u "java/lang/Object"), (0, u "<init>"), (0, u "()V"), (0, .class_ 8), (0, u "java/lang/Record")] 13

def k2c0 : Code := { maxStack := 1, maxLocals := 1, code := jdk_30_method_1_code, exceptionTable := #[], attributes := #[] }
def k2m0 : Method := { name := "<init>", desc := "()V", sig := { parameters := [], returnType := none }, accessFlags := 4, code := some k2c0 }
/-- java/lang/Record -/
def k2 : Class := { plain "java/lang/Record" (some 0) with
  accessFlags := 1057
  interfaces := #[]
  cf := some (fileOf pool2 7 #[] #[{ accessFlags := 4, nameIndex := 5, descriptorIndex := 6, attributes := #[] }] 1057 2 #[] #[])
  fields := #[]
  methods := #[k2m0]
  instanceTypes := #[]
  staticTypes := #[]
  resolved := Array.replicate 22 none
  statics := none }

def pool3 : Array CpInfo := pool [(1, .methodref 2 3), (0, .class_ 4), (0, .nameAndType 5 6), (0, u "java/lang/Record"), (0, u "<init>"), (0, u "()V"), (0, .fieldref 8 9), (0, .class_ 10), (0, .nameAndType 11 12), (0, u "com/example/depthwire/depthwire/EncodedFields"), (0, u "bytes"), (0, u "[B"), (0, .fieldref 8 14), (0, .nameAndType 15 16), (0, u "sum"), (0, u "I"), (14, u "()Z"), (49, u "([BI)V"), (13, u "NONE"), (0, u "Lcom/example/depthwire/depthwire/EncodedFields;"), (9, u "isEmpty")] 25

def k3c0 : Code := { maxStack := 2, maxLocals := 3, code := prog_7_method_1_code, exceptionTable := #[], attributes := #[] }
def k3m0 : Method := { name := "<init>", desc := "([BI)V", sig := { parameters := [(.array .byte), .int], returnType := none }, accessFlags := 0, code := some k3c0 }
def k3c1 : Code := { maxStack := 1, maxLocals := 1, code := prog_7_method_3_code, exceptionTable := #[], attributes := #[] }
def k3m1 : Method := { name := "isEmpty", desc := "()Z", sig := { parameters := [], returnType := some .boolean }, accessFlags := 0, code := some k3c1 }
/-- com/example/depthwire/depthwire/EncodedFields -/
def k3 : Class := { plain "com/example/depthwire/depthwire/EncodedFields" (some 2) with
  accessFlags := 48
  interfaces := #[]
  cf := some (fileOf pool3 8 #[] #[{ accessFlags := 0, nameIndex := 5, descriptorIndex := 81, attributes := #[] }, { accessFlags := 0, nameIndex := 106, descriptorIndex := 31, attributes := #[] }] 48 2 #[] #[{ accessFlags := 18, nameIndex := 11, descriptorIndex := 12, attributes := #[] }, { accessFlags := 18, nameIndex := 15, descriptorIndex := 16, attributes := #[] }, { accessFlags := 24, nameIndex := 95, descriptorIndex := 96, attributes := #[] }])
  fields := #[{ name := "bytes", type := (.array .byte), accessFlags := 18, slot := 0, constantValue := 0 }, { name := "sum", type := .int, accessFlags := 18, slot := 1, constantValue := 0 }, { name := "NONE", type := (.object "com/example/depthwire/depthwire/EncodedFields"), accessFlags := 24, slot := 0, constantValue := 0 }]
  methods := #[k3m0, k3m1]
  instanceTypes := #[(.array .byte), .int]
  staticTypes := #[(.object "com/example/depthwire/depthwire/EncodedFields")]
  resolved := Array.replicate 132 none
  statics := none }

def pool4 : Array CpInfo := pool [(1, u "java/lang/Cloneable"), (0, .class_ 1), (0, u "java/lang/Object"), (0, .class_ 3)] 3

/-- java/lang/Cloneable -/
def k4 : Class := { plain "java/lang/Cloneable" (some 0) with
  accessFlags := 1537
  interfaces := #[]
  cf := some (fileOf pool4 2 #[] #[] 1537 4 #[] #[])
  fields := #[]
  methods := #[]
  instanceTypes := #[]
  staticTypes := #[]
  resolved := Array.replicate 8 none
  statics := none }

def pool5 : Array CpInfo := pool [(1, u "java/io/Serializable"), (0, .class_ 1), (0, u "java/lang/Object"), (0, .class_ 3)] 3

/-- java/io/Serializable -/
def k5 : Class := { plain "java/io/Serializable" (some 0) with
  accessFlags := 1537
  interfaces := #[]
  cf := some (fileOf pool5 2 #[] #[] 1537 4 #[] #[])
  fields := #[]
  methods := #[]
  instanceTypes := #[]
  staticTypes := #[]
  resolved := Array.replicate 8 none
  statics := none }

/-- the primitive byte -/
def k6 : Class := { plain "byte" none with kind := .primitive 'B', accessFlags := 0x411 }
/-- [B -/
def k7 : Class := { plain "[B" (some 0) with kind := .array 6 .byte, interfaces := #[4, 5], accessFlags := 1041 }

/-- the primitive int -/
def k8 : Class := { plain "int" none with kind := .primitive 'I', accessFlags := 0x411 }
/-- [I -/
def k9 : Class := { plain "[I" (some 0) with kind := .array 8 .int, interfaces := #[4, 5], accessFlags := 1041 }

def heap : Heap := #[]
def classes : Array Class := #[k0, k1, k2, k3, k4, k5, k6, k7, k8, k9]
def interned : List (Array UInt16 × Addr) := []
def slotsUsed : Nat := 0
def theMethod : MethodId := ⟨1, 1⟩
def args0 : Array Value := #[.int 2, .int 7, .int 1, .int 2, .int 3]
def aboutOver (below : List Frame) : State where
  vm := { classes := classes, interned := interned.toArray }
  heap := heap
  slotsUsed := slotsUsed
  threads := #[{ frames := .invoking theMethod args0 :: below }]
def below0 : List Frame := [.native { method := ⟨0, 0⟩, args := #[] }]
def about1 : State := aboutOver below0
def p0 : Program := .bare "" "" ""
def e0 : Env := launch0.env 0 0 0
theorem w_frames : about1.frames = Frame.invoking theMethod args0 :: below0 := rfl
set_option maxRecDepth 65536 in
theorem w_args : argsFit about1.vm theMethod args0 = true := by decide +kernel
set_option maxRecDepth 65536 in
theorem w_heap : heapFits about1 = true := by decide +kernel
set_option maxRecDepth 65536 in
theorem w_runnable : about1.curStatus? = some .runnable := by decide +kernel
set_option maxRecDepth 65536 in
theorem w_alone : about1.alone = true := by decide +kernel
set_option maxRecDepth 65536 in
theorem w_named : about1.methodNamed? x = some theMethod := by decide +kernel
set_option maxRecDepth 65536 in
theorem w_hears : about1.hears theMethod below0 = true := by decide +kernel
set_option maxRecDepth 65536 in
theorem w_ripe : about1.ripe theMethod args0 below0 = true := by decide +kernel
theorem w_running : about1.status = .running := rfl
set_option maxRecDepth 65536 in
theorem w_room : about1.hasRoom e0.platform room_1 = true :=
  launch0.hasRoom_least _ room_1 (by decide +kernel) (by decide +kernel) (by decide +kernel) (by decide +kernel) (by decide +kernel) (by decide +kernel)
theorem allAtoms_all (ts : List Jvm.Cond) (a : Array Jvm.Value) (st : Jvm.State) : (allAtoms ts).before a st = ts.all (fun c => c.before a st) := by
  induction ts with
  | nil => rfl
  | cons c t ih =>
    show (Jvm.Cond.and c (allAtoms t)).before a st = _
    rw [Jvm.Cond.before_and, ih, List.all_cons]
def words1 : List Jvm.Cond := Jvm.Cond.code x code maxLocals ret :: tables_1
/-- a 'code' word, met by the world's own term for the bytes: nothing is compared byte by byte -/
theorem code_word {y : MethodName} {bytes : ByteArray} {mx : Nat} {rt : Option FieldType} {a : Array Value} {s : State} {m : MethodId} {meth : Method} {c : Code} (h1 : s.methodNamed? y = some m) (h2 : s.vm.method? m = some meth) (h3 : meth.code = some c) (h4 : c.code = bytes)
    (h5 : (c.maxLocals == mx && c.exceptionTable.isEmpty && decide (c.maxStack ≤ mostOperands) && decide (meth.sig.returnType = rt) && !meth.locks && decide (parseMethodDescriptor y.desc = some meth.sig)) = true) : (Jvm.Cond.code y bytes mx rt).before a s = true := by
  simp only [Bool.and_eq_true, beq_iff_eq, Bool.not_eq_true', decide_eq_true_eq] at h5
  obtain ⟨⟨⟨⟨⟨g1, g2⟩, g3⟩, g4⟩, g5⟩, g6⟩ := h5
  simp [Cond.before, Cond.holds, Cond.value, h1, h2, h3, h4, g1, g2, g3, g4, g5, g6]
def isCode : Jvm.Cond → Bool
  | .code _ _ _ _ => true
  | _ => false
theorem all_split {L : List Jvm.Cond} {P : Jvm.Cond → Bool} (h1 : L.all (fun c => isCode c || P c) = true) (h2 : ∀ c ∈ L.filter isCode, P c = true) : L.all P = true := by
  refine List.all_eq_true.mpr fun c hc => ?_
  have h := List.all_eq_true.mp h1 c hc
  rcases Bool.eq_false_or_eq_true (isCode c) with hi | hi
  · exact h2 c (List.mem_filter.mpr ⟨hc, hi⟩)
  · simpa [hi] using h
set_option maxRecDepth 65536 in
theorem w_c0 : (Jvm.Cond.code x code maxLocals ret).before args0 about1 = true := code_word (m := ⟨1, 1⟩) (meth := k1m1) (c := k1c1) (by decide +kernel) rfl rfl rfl (by decide +kernel)
set_option maxRecDepth 65536 in
theorem w_c1 : (Jvm.Cond.code ({ cls := "com/example/depthwire/depthwire/EncodedFields", name := "<init>", desc := "([BI)V" } : Jvm.MethodName) prog_7_method_1_code (3 : Nat) (Option.none : Option Jvm.ClassFile.FieldType)).before args0 about1 = true := code_word (m := ⟨3, 0⟩) (meth := k3m0) (c := k3c0) (by decide +kernel) rfl rfl rfl (by decide +kernel)
set_option maxRecDepth 65536 in
theorem w_c2 : (Jvm.Cond.code ({ cls := "java/lang/Record", name := "<init>", desc := "()V" } : Jvm.MethodName) jdk_30_method_1_code (1 : Nat) (Option.none : Option Jvm.ClassFile.FieldType)).before args0 about1 = true := code_word (m := ⟨2, 0⟩) (meth := k2m0) (c := k2c0) (by decide +kernel) rfl rfl rfl (by decide +kernel)
set_option maxRecDepth 65536 in
theorem w_c3 : (Jvm.Cond.code ({ cls := "java/lang/Object", name := "<init>", desc := "()V" } : Jvm.MethodName) object_method_1_code (1 : Nat) (Option.none : Option Jvm.ClassFile.FieldType)).before args0 about1 = true := code_word (m := ⟨0, 0⟩) (meth := k0m0) (c := k0c0) (by decide +kernel) rfl rfl rfl (by decide +kernel)
set_option maxRecDepth 65536 in
theorem w_c4 : (Jvm.Cond.code ({ cls := "com/example/depthwire/depthwire/EncodedFields", name := "isEmpty", desc := "()Z" } : Jvm.MethodName) prog_7_method_3_code (1 : Nat) (Option.some Jvm.ClassFile.FieldType.boolean)).before args0 about1 = true := code_word (m := ⟨3, 1⟩) (meth := k3m1) (c := k3c1) (by decide +kernel) rfl rfl rfl (by decide +kernel)
def codes1 : List Jvm.Cond := [Jvm.Cond.code x code maxLocals ret, Jvm.Cond.code ({ cls := "com/example/depthwire/depthwire/EncodedFields", name := "<init>", desc := "([BI)V" } : Jvm.MethodName) prog_7_method_1_code (3 : Nat) (Option.none : Option Jvm.ClassFile.FieldType), Jvm.Cond.code ({ cls := "java/lang/Record", name := "<init>", desc := "()V" } : Jvm.MethodName) jdk_30_method_1_code (1 : Nat) (Option.none : Option Jvm.ClassFile.FieldType), Jvm.Cond.code ({ cls := "java/lang/Object", name := "<init>", desc := "()V" } : Jvm.MethodName) object_method_1_code (1 : Nat) (Option.none : Option Jvm.ClassFile.FieldType), Jvm.Cond.code ({ cls := "com/example/depthwire/depthwire/EncodedFields", name := "isEmpty", desc := "()Z" } : Jvm.MethodName) prog_7_method_3_code (1 : Nat) (Option.some Jvm.ClassFile.FieldType.boolean)]
set_option maxRecDepth 65536 in
theorem codes_eq : words1.filter isCode = codes1 := rfl
theorem w_codes : ∀ c ∈ words1.filter isCode, c.before args0 about1 = true := by
  rw [codes_eq]
  intro c hc
  simp only [codes1, List.mem_cons, List.not_mem_nil, or_false] at hc
  rcases hc with rfl | rfl | rfl | rfl | rfl
  · exact w_c0
  · exact w_c1
  · exact w_c2
  · exact w_c3
  · exact w_c4
set_option maxRecDepth 65536 in
theorem w_t1 : (words1.take 24).all (fun c => isCode c || c.before args0 about1) = true := by decide +kernel
set_option maxRecDepth 65536 in
theorem w_t2 : (words1.drop 24).all (fun c => isCode c || c.before args0 about1) = true := by decide +kernel
theorem w_tables : (allAtoms (Jvm.Cond.code x code maxLocals ret :: tables_1)).before args0 about1 = true := by
  rw [allAtoms_all]
  show words1.all (fun c => c.before args0 about1) = true
  refine all_split ?_ w_codes
  rw [← List.take_append_drop 24 words1, List.all_append, w_t1, w_t2]
  rfl
set_option maxRecDepth 65536 in
theorem w_case : (Jvm.Cond.and given_1 narrow_1).before args0 about1 = true := by decide +kernel
theorem w_applies : (headSpec (Jvm.Cond.code x code maxLocals ret :: tables_1) room_1).applies x e0.platform about1 = true :=
  (Spec.applies_iff w_frames).mpr ⟨w_running, w_runnable, w_alone, w_named, w_hears, w_ripe, w_room, w_tables⟩
theorem atStart : AtStart classFile x code maxLocals ret World_1 tables_1 room_1 Calls_1 rest_1 Pre_1 launch0 p0 e0 about1 theMethod args0 below0 :=
  ⟨lists_1, trivial, launch0.admits_env _ _ _, launch0.least_env, fairChoices_fair.cas, fairChoices_fair.clock, w_frames, w_args, w_heap, w_applies, trivial, trivial, w_case⟩
end start1
theorem witness_1 : WitnessClaimed_1 := ⟨start1.p0, start1.e0, start1.about1, start1.theMethod, start1.args0, start1.below0, start1.atStart⟩
end Jvm.Pilot.@@N@@
