import JvmDerived
import JvmDerived.Pilot.@@N@@Statement
import JvmDerived.Pilot.@@N@@Code
set_option linter.unusedVariables false
set_option linter.unusedSimpArgs false
namespace Jvm.RoadKit
open Sem ClassFile Op Lib Jvm.Stand Jvm.Free Jvm.LawKit
section New
variable {p : Program} {l : Launch} {e : Env} {R : Room} {s : State} {m : MethodId} {args : Array Value} {below : List Frame} {meth : Method} {c : Code} {T : State} {locs : List Loc} {cells slots : Nat}
theorem retI (X : Stand p l e R s m args below meth c T locs cells slots) (hx : p.tables.exec = Jvm.exec) {pc : Nat} {Ls : Array Slot} {z : Int32} {rest : List Value} (hret : meth.sig.returnType = some .int) (hd : decode c.code pc = .ok (.ireturn, 1)) {fs : List Frame}
    (hl : ∀ (f : JFrame) (acts : List Action), f.method = m → f.locked = none → f.entered = [] → (doReturn e (T.setTop f) acts (some (.int z))).1 = T.setFrames fs) : Steps p.tables e below (T.setTop (mkF m pc Ls (.int z :: rest))) (T.setFrames fs) := by
  have hm' : T.vm.method? m = some meth := X.method'
  have hn : narrow .int (.int z) = .int z := rfl
  show Steps p.tables e below (T.setTop { method := m, pc := pc, locals := Ls, stack := _ :: rest, locked := none }) _
  jvm_step X.here [X.here.top, hx, hd, hm', hret, hn]
  first | (intro acts; rw [hl _ acts rfl rfl rfl]) | rw [hl _ _ rfl rfl rfl]
  exact Steps.refl _
theorem own_retN (X : Stand p l e R s m args below meth c T locs cells slots) (hx : p.tables.exec = Jvm.exec) {pc : Nat} {Ls : Array Slot} {z z' : Int32} {t : FieldType} {rest : List Value} (hret : meth.sig.returnType = some t) (ht : t = .boolean ∨ t = .byte ∨ t = .char ∨ t = .short)
    (hd : decode c.code pc = .ok (.ireturn, 1)) (hz : nar t z = z') {fs : List Frame} (hl : ∀ (f : JFrame) (acts : List Action), f.method = m → f.locked = none → f.entered = [] → (doReturn e (T.setTop f) acts (some (.int z'))).1 = T.setFrames fs) :
    Steps p.tables e below (T.setTop (mkF m pc Ls (.int z :: rest))) (T.setFrames fs) := by
  subst hz; exact retN X hx hret ht hd hl
end New
theorem own_nar_if {P : Prop} [Decidable P] {a b : Int32} (ha : nar .boolean a = a) (hb : nar .boolean b = b) : nar .boolean (if P then a else b) = if P then a else b := by
  split
  · exact ha
  · exact hb
theorem own_b_lt (x y : Int32) : (if if_icmp.holds .lt x y = true then (0 : Int32) else 1) = if x < y then 0 else 1 := by
  by_cases h : x < y
  · rw [(tlt h).1]; simp [h]
  · rw [(flt h).1]; simp [h]
theorem own_b_ge (x y : Int32) : (if if_icmp.holds .ge x y = true then (0 : Int32) else 1) = if x < y then 1 else 0 := by
  by_cases h : x < y
  · rw [(tlt h).2.1]; simp [h]
  · rw [(flt h).2.1]; simp [h]
theorem own_b_gt (x y : Int32) : (if if_icmp.holds .gt x y = true then (0 : Int32) else 1) = if y < x then 0 else 1 := by
  by_cases h : y < x
  · rw [(tlt h).2.2.1]; simp [h]
  · rw [(flt h).2.2.1]; simp [h]
theorem own_b_le (x y : Int32) : (if if_icmp.holds .le x y = true then (0 : Int32) else 1) = if y < x then 1 else 0 := by
  by_cases h : y < x
  · rw [(tlt h).2.2.2]; simp [h]
  · rw [(flt h).2.2.2]; simp [h]
theorem own_b_eq (x y : Int32) : (if if_icmp.holds .eq x y = true then (0 : Int32) else 1) = if x = y then 0 else 1 := by
  by_cases h : x = y
  · rw [(teq h).1]; simp [h]
  · rw [(feq h).1]; simp [h]
theorem own_b_ne (x y : Int32) : (if if_icmp.holds .ne x y = true then (0 : Int32) else 1) = if x = y then 1 else 0 := by
  by_cases h : x = y
  · rw [(teq h).2]; simp [h]
  · rw [(feq h).2]; simp [h]
theorem own_boolC {tb : Tables} [Ours tb] {e : Env} {below : List Frame} {T target : State} {m : MethodId} {c : Code} {g : JFrame} (h : At T m c below) (hx : tb.exec = Jvm.exec) (hg : g.method = m) {cd : ClassFile.Cond} {x y z : Int32} {rest : List Value}
    (hd0 : decode c.code g.pc = .ok (.if_icmp cd 7, 3)) (hd1 : decode c.code (g.pc + 3) = .ok (.iconst 1, 1)) (hd2 : decode c.code (g.pc + 4) = .ok (.goto 4, 3)) (hd3 : decode c.code (g.pc + 7) = .ok (.iconst 0, 1)) (hs : g.stack = .int y :: .int x :: rest)
    (hz : (if if_icmp.holds cd x y = true then (0 : Int32) else 1) = z) (hr : Steps tb e below (T.setTop { g with pc := g.pc + 8, stack := .int z :: rest }) target) : Steps tb e below (T.setTop g) target := by
  by_cases hc : if_icmp.holds cd x y = true
  · rw [if_pos hc] at hz; subst hz
    exact XS.icmpYes h hx hg (pc0 := g.pc) (pc' := g.pc + 7) rfl hd0 hs hc (by omega) (by omega) (XS.iconst h hx hg hd3 hr)
  · rw [if_neg hc] at hz; subst hz
    exact XS.icmpNo h hx hg hd0 hs (by simpa using hc) (XS.iconst h hx hg hd1 (XS.goto h hx hg (pc0 := g.pc + 4) (pc' := g.pc + 8) rfl hd2 (by omega) (by omega) hr))
theorem own_boolI {tb : Tables} [Ours tb] {e : Env} {below : List Frame} {T target : State} {m : MethodId} {c : Code} {g : JFrame} (h : At T m c below) (hx : tb.exec = Jvm.exec) (hg : g.method = m) {cd : ClassFile.Cond} {x z : Int32} {rest : List Value}
    (hd0 : decode c.code g.pc = .ok (.ifCond cd 7, 3)) (hd1 : decode c.code (g.pc + 3) = .ok (.iconst 1, 1)) (hd2 : decode c.code (g.pc + 4) = .ok (.goto 4, 3)) (hd3 : decode c.code (g.pc + 7) = .ok (.iconst 0, 1)) (hs : g.stack = .int x :: rest)
    (hz : (if if_icmp.holds cd x 0 = true then (0 : Int32) else 1) = z) (hr : Steps tb e below (T.setTop { g with pc := g.pc + 8, stack := .int z :: rest }) target) : Steps tb e below (T.setTop g) target := by
  by_cases hc : if_icmp.holds cd x 0 = true
  · rw [if_pos hc] at hz; subst hz
    exact XS.ifYes h hx hg (pc0 := g.pc) (pc' := g.pc + 7) rfl hd0 hs ((if0 _ _).trans hc) (by omega) (by omega) (XS.iconst h hx hg hd3 hr)
  · rw [if_neg hc] at hz; subst hz
    exact XS.ifNo h hx hg hd0 hs ((if0 _ _).trans (by simpa using hc)) (XS.iconst h hx hg hd1 (XS.goto h hx hg (pc0 := g.pc + 4) (pc' := g.pc + 8) rfl hd2 (by omega) (by omega) hr))
theorem own_selects_private {y : MethodName} {s : State} {args : Array Value} {n : Nat} (hins : (Cond.instantiable y.cls n).before args s = true) (hpriv : (Cond.privateMethod y).before args s = true) (hinst : (Cond.instanceMethod y).before args s = true) (hy : y.cls ≠ "java/lang/invoke/MethodHandle" ∧ y.cls ≠ "java/lang/invoke/VarHandle" := by decide) :
    (Cond.selects y.cls y y).before args s = true := by
  obtain ⟨c, k, hc, hk, -, hniab, -, -⟩ := Cond.instantiable_spec hins
  have hni : k.isInterface = false := (Bool.or_eq_false_iff.mp hniab).1
  obtain ⟨mk, methM, hnamed, hmethM, -, -⟩ := Cond.instanceMethod_spec hinst
  have hfound : s.methodFound? y.cls y.name y.desc = some mk := State.methodFound?_of_named hnamed hy
  have hcls : mk.cls = c := Option.some.inj ((findClass_of_methodNamed hnamed).symm.trans hc)
  have hsel : selectMethod {} s.vm c mk = .method mk := selectMethod_private hmethM (Cond.privateMethod_at hpriv mk methM hnamed hmethM)
  simp only [Cond.before, Cond.holds, Cond.value, hc, hfound, hnamed, hsel, hcls, hk]
  simp; exact hni
theorem own_sta_keep {Z : State} {h h' : Heap} {C n d : String} {v : Value} {ws : List Addr} (F : Sta Z h C n d v) (K : Keep h h' ws) (q : ∀ x ∈ ws, ∀ cell : Cell, h[x]? = some cell → cell.vm.isStatics = false) : Sta Z h' C n d v := by
  obtain ⟨cf, i, k, f, st, cell, h1, h2, h3, h4, h5, h6, h7⟩ := F
  refine ⟨cf, i, k, f, st, cell, h1, h2, h3, h4, K.2.1 _ _ h5 (fun hm => ?_), h6, h7⟩
  rw [q _ hm _ h5] at h6; cases h6
theorem own_plain_exa {Z : State} {h : Heap} {a : Addr} {C : String} (F : Exa Z h a C) : ∀ cell : Cell, h[a]? = some cell → cell.vm.isStatics = false := fun cell hc => by
  obtain ⟨c, k, h1, -, -, h4, -⟩ := F
  cases h1.symm.trans hc; exact h4
end Jvm.RoadKit
namespace Jvm.Pilot.@@N@@
open Jvm Jvm.ClassFile Sem Op Lib Jvm.Free Jvm.Stand Jvm.LawKit Jvm.RoadKit Bundle Jvm.Pilot.@@N@@.Jvm.D
def own_need (v : Int32) : Int32 := if ¬ (v < 194) ∧ ¬ ((223 : Int32) < v) then 1 else if ¬ (v < 224) ∧ ¬ ((239 : Int32) < v) then 2 else if ¬ (v < 240) ∧ ¬ ((244 : Int32) < v) then 3 else 0
def own_next (p v : Int32) : Int32 := if (0 : Int32) < p then p - 1 else own_need v
theorem own_k : (128 : Int32).toInt = 128 ∧ (194 : Int32).toInt = 194 ∧ (223 : Int32).toInt = 223 ∧ (224 : Int32).toInt = 224 ∧ (225 : Int32).toInt = 225 ∧ (239 : Int32).toInt = 239 ∧ (240 : Int32).toInt = 240 ∧ (241 : Int32).toInt = 241 ∧ (243 : Int32).toInt = 243 ∧ (244 : Int32).toInt = 244 ∧ (237 : Int32).toInt = 237 := by decide
theorem own_nd1 {v : Int32} (h1 : ¬ (v < (194 : Int32))) (h2 : ¬ ((223 : Int32) < v)) : own_need v = 1 := if_pos ⟨h1, h2⟩
theorem own_nd2 {v : Int32} (h1 : ¬ (v < (224 : Int32))) (h2 : ¬ ((239 : Int32) < v)) : own_need v = 2 := by
  have k := own_k
  unfold own_need
  rw [if_neg (fun h => by simp only [Int32.lt_iff_toInt_lt] at *; omega), if_pos ⟨h1, h2⟩]
theorem own_nd3 {v : Int32} (h1 : ¬ (v < (240 : Int32))) (h2 : ¬ ((244 : Int32) < v)) : own_need v = 3 := by
  have k := own_k
  unfold own_need
  rw [if_neg (fun h => by simp only [Int32.lt_iff_toInt_lt] at *; omega), if_neg (fun h => by simp only [Int32.lt_iff_toInt_lt] at *; omega), if_pos ⟨h1, h2⟩]
theorem own_nd0 {v : Int32} (h1 : v < (194 : Int32) ∨ (223 : Int32) < v) (h2 : v < (224 : Int32) ∨ (239 : Int32) < v) (h3 : v < (240 : Int32) ∨ (244 : Int32) < v) : own_need v = 0 := by
  unfold own_need
  rw [if_neg (fun h => h1.elim h.1 h.2), if_neg (fun h => h2.elim h.1 h.2), if_neg (fun h => h3.elim h.1 h.2)]
theorem own_na0 {v : Int32} (h : v < (128 : Int32)) : own_need v = 0 := by
  have k := own_k
  refine own_nd0 (Or.inl ?_) (Or.inl ?_) (Or.inl ?_) <;> (simp only [Int32.lt_iff_toInt_lt] at *; omega)
theorem own_naE0 {v : Int32} (h : v = (224 : Int32)) : own_need v = 2 := by subst h; decide
theorem own_naED {v : Int32} (h : v = (237 : Int32)) : own_need v = 2 := by subst h; decide
theorem own_naF0 {v : Int32} (h : v = (240 : Int32)) : own_need v = 3 := by subst h; decide
theorem own_naF4 {v : Int32} (h : v = (244 : Int32)) : own_need v = 3 := by subst h; decide
theorem own_na2 {v : Int32} (h1 : ¬ (v < (225 : Int32))) (h2 : ¬ ((239 : Int32) < v)) : own_need v = 2 := by
  have k := own_k
  exact own_nd2 (by simp only [Int32.lt_iff_toInt_lt] at *; omega) h2
theorem own_na3 {v : Int32} (h1 : ¬ (v < (241 : Int32))) (h2 : ¬ ((243 : Int32) < v)) : own_need v = 3 := by
  have k := own_k
  exact own_nd3 (by simp only [Int32.lt_iff_toInt_lt] at *; omega) (by simp only [Int32.lt_iff_toInt_lt] at *; omega)
theorem own_naz {v : Int32} (h1 : v < (194 : Int32) ∨ (223 : Int32) < v) (h2 : ¬ v = (224 : Int32)) (h3 : ¬ v = (237 : Int32)) (h4 : v < (225 : Int32) ∨ (239 : Int32) < v) (h5 : ¬ v = (240 : Int32)) (h6 : ¬ v = (244 : Int32)) (h7 : v < (241 : Int32) ∨ (243 : Int32) < v) : own_need v = 0 := by
  have k := own_k
  rw [← Int32.toInt_inj] at h2 h5 h6
  refine own_nd0 h1 ?_ ?_ <;> (simp only [Int32.lt_iff_toInt_lt] at *; omega)
theorem own_needR (v : Int32) : own_need v = 0 ∨ own_need v = 1 ∨ own_need v = 2 ∨ own_need v = 3 := by
  unfold own_need
  split
  · simp
  · split
    · simp
    · split <;> simp
theorem own_nz (p v : Int32) : ¬ ((0 : Int32) < own_next p v) → own_next p v = 0 := by
  unfold own_next
  split
  · rename_i h
    intro h2
    rw [Int32.lt_iff_toInt_lt] at h h2
    have c1 := c_isub p 1
    have r1 := rng32 p; have r2 := rng32 (p - 1)
    have e1 : (0 : Int32).toInt = 0 := by decide
    have e2 : (1 : Int32).toInt = 1 := by decide
    apply Int32.toInt_inj.mp
    omega
  · intro h2
    rcases own_needR v with h | h | h | h <;> rw [h] at h2 ⊢
    all_goals exact absurd (by decide) h2
theorem own_b255 (a : Int32) : (a.toInt8.toInt32 &&& (255 : Int32)) = a &&& (255 : Int32) := by
  have h1 : (a.toInt8.toInt32 &&& (255 : Int32)).toInt = a.toInt8.toInt32.toInt % (2 ^ 8 : Nat) := c_mask _ 255 8 (by decide) (by decide)
  have h2 : (a &&& (255 : Int32)).toInt = a.toInt % (2 ^ 8 : Nat) := c_mask _ 255 8 (by decide) (by decide)
  have h3 := c_i2b a
  apply Int32.toInt_inj.mp
  rw [h1, h2]
  omega
theorem d1_0 : decode prog_59_method_1_code 0 = .ok (.aload_n 0, 1) := by decide +kernel
theorem d1_1 : decode prog_59_method_1_code 1 = .ok (.invokespecial 1, 3) := by decide +kernel
theorem d1_4 : decode prog_59_method_1_code 4 = .ok (.return_, 1) := by decide +kernel
theorem ef_rm1 (m : MethodId) (x0 : Addr) : entryFrame m #[(.ref x0)] 1 = mkF m 0 #[.val (.ref x0)] [] := by first | (simp [entryFrame, mkF, argsToLocals, Value.category]; done) | rfl
theorem pn_0 : plainName "com/example/vestline/vestline/io/Utf8Validator" = true := by first | (simp [plainName, overriddenIn]; done) | decide +kernel
def Q1 (Z : State) (ob : Addr) (h0 : Heap) (n0 : Nat) (v : Option Value) (h : Heap) (L : List Loc) : Prop := v = none ∧ Fr n0 L ∧ h = h0
set_option maxRecDepth 65536 in
set_option maxHeartbeats 40000000 in
theorem rm1 (l : Launch) (Z : State) (a0 : Array Value) (hw : ∀ d ∈ tables_1, d.before a0 Z = true) (ws : List Jvm.Cond) (ob : Addr) (h0 : Heap) (n0 : Nat) (Z0 : n0 ≤ h0.size)  :
    MetFree l (⟨"com/example/vestline/vestline/io/Utf8Validator", "<init>", "()V"⟩ : MethodName) (head1 (Jvm.Cond.code (⟨"com/example/vestline/vestline/io/Utf8Validator", "<init>", "()V"⟩ : MethodName) prog_59_method_1_code 1 none :: ws) ({ frames := 1, cells := 0, slots := 0, locals := 12 } : Room)) (fun a U => a = #[(.ref ob)] ∧ Z.Warmed39 U.vm ∧ U.heap = h0) (fun _ _ _ _ _ => True) (fun _ U o U' => ∃ v L, o = .returned v ∧ Q1 Z ob h0 n0 v U'.heap L ∧ FrameEnd U o U' L ({ frames := 1, cells := 0, slots := 0, locals := 12 } : Room).cells ({ frames := 1, cells := 0, slots := 0, locals := 12 } : Room).slots) := by
  refine MetFree.of_bodySF (plainFor_of_name pn_0) hisR ?_
  intro p e s0 m args below meth c s₁ Bd hml0 hP hK
  obtain ⟨rfl, hZ, hh⟩ := hP
  have hx := Bd.exec
  have hby := Bd.bytes
  have hml : c.maxLocals = 1 := hml0
  have hown : s0.vm.findClass "com/example/vestline/vestline/io/Utf8Validator" = some m.cls := findClass_of_methodNamed Bd.named
  have hnm := (name_of_methodNamed Bd.named Bd.method).1
  have X0 : Stand p l e ({ frames := 1, cells := 0, slots := 0, locals := 12 } : Room) s0 m #[(.ref ob)] below meth c s₁ [] 0 0 := Stand.of_body Bd
  have e0 : s₁.heap = h0 := by rw [← hh, Bd.state]; rfl
  have N0 := Fr.nil n0
  have pre0 : ∀ t, Steps p.tables e below (s₁.setTop (mkF m 0 #[.val (.ref ob)] [])) t → Steps p.tables e below (s₁.setTop (entryFrame m #[(.ref ob)] 1)) t := fun t k => castTop (ef_rm1 m ob) k
  obtain ⟨T1, X1, e1, st1⟩ := initO X0 hx hZ hown (hw _ (List.mem_of_getElem? (i := 6) rfl)) (hw _ (List.mem_of_getElem? (i := 7) rfl)) (hw _ (List.mem_of_getElem? (i := 8) rfl)) e0 (g := (mkF m 1 #[.val (.ref ob)] [(.ref ob)])) rfl (by rw [hml]; rfl) rfl (hb hby d1_1) (by decide) (W := 0) (by show 2 * 0 + _ ≤ _; exact Nat.le_of_eq rfl) (by decide)
  have pre2 : ∀ t, Steps p.tables e below (T1.setTop (mkF m 4 #[.val (.ref ob)] [])) t → Steps p.tables e below (s₁.setTop (entryFrame m #[(.ref ob)] 1)) t := fun t k => by
    refine pre0 t ?_
    show Steps p.tables e below (s₁.setTop (mkF m 0 #[.val (.ref ob)] [])) _
    refine XS.aloadN X0.here hx rfl (hb hby d1_0) rfl rfl ?_
    show Steps p.tables e below (s₁.setTop (mkF m 1 #[.val (.ref ob)] [(.ref ob)])) _
    refine st1 _ ?_
    exact k
  obtain ⟨fs, hrq, hrun, hended, hW, hsame⟩ := X1.leave (v := none) (fun _ => rfl)
  refine ⟨_, _, pre2 _ ?_, hrun, hended, _, _, rfl, ?_, ⟨_, rfl⟩, hW, hsame.mono (by decide) (by decide)⟩
  · show Steps p.tables e below (T1.setTop (mkF m 4 #[.val (.ref ob)] [])) _
    exact X1.returnOut hx Bd.returns (hb hby d1_4) hrq
  · show Q1 Z ob h0 n0 _ T1.heap _
    rw [e1]
    exact ⟨rfl, N0, rfl⟩
theorem d3_0 : decode prog_59_method_2_code 0 = .ok (.aload_n 0, 1) := by decide +kernel
theorem d3_1 : decode prog_59_method_2_code 1 = .ok (.getfield 7, 3) := by decide +kernel
theorem d3_4 : decode prog_59_method_2_code 4 = .ok (.ifCond .le 7, 3) := by decide +kernel
theorem d3_7 : decode prog_59_method_2_code 7 = .ok (.iconst 1, 1) := by decide +kernel
theorem d3_8 : decode prog_59_method_2_code 8 = .ok (.goto 4, 3) := by decide +kernel
theorem d3_11 : decode prog_59_method_2_code 11 = .ok (.iconst 0, 1) := by decide +kernel
theorem d3_12 : decode prog_59_method_2_code 12 = .ok (.ireturn, 1) := by decide +kernel
theorem ef_rm3 (m : MethodId) (x0 : Addr) : entryFrame m #[(.ref x0)] 1 = mkF m 0 #[.val (.ref x0)] [] := by first | (simp [entryFrame, mkF, argsToLocals, Value.category]; done) | rfl
def Q3 (Z : State) (ob : Addr) (P r : Int32) (h0 : Heap) (n0 : Nat) (v : Option Value) (h : Heap) (L : List Loc) : Prop := v = some (.int r) ∧ Fr n0 L ∧ h = h0
set_option maxRecDepth 65536 in
set_option maxHeartbeats 40000000 in
theorem rm3 (l : Launch) (Z : State) (a0 : Array Value) (hw : ∀ d ∈ tables_1, d.before a0 Z = true) (ws : List Jvm.Cond) (ob : Addr) (P r : Int32) (h0 : Heap) (n0 : Nat) (Z0 : n0 ≤ h0.size) (F_p : Fld Z h0 ob "com/example/vestline/vestline/io/Utf8Validator" "pending" "I" (.int P)) (hr : (if (0 : Int32) < P then (1 : Int32) else (0 : Int32)) = r) :
    MetFree l (⟨"com/example/vestline/vestline/io/Utf8Validator", "pending", "()Z"⟩ : MethodName) (head1 (Jvm.Cond.code (⟨"com/example/vestline/vestline/io/Utf8Validator", "pending", "()Z"⟩ : MethodName) prog_59_method_2_code 1 (some .boolean) :: ws) ({ frames := 0, cells := 0, slots := 0, locals := 0 } : Room)) (fun a U => a = #[(.ref ob)] ∧ Z.Warmed39 U.vm ∧ U.heap = h0) (fun _ _ _ _ _ => True) (fun _ U o U' => ∃ v L, o = .returned v ∧ Q3 Z ob P r h0 n0 v U'.heap L ∧ FrameEnd U o U' L ({ frames := 0, cells := 0, slots := 0, locals := 0 } : Room).cells ({ frames := 0, cells := 0, slots := 0, locals := 0 } : Room).slots) := by
  refine MetFree.of_bodySF (plainFor_of_name pn_0) hisR ?_
  intro p e s0 m args below meth c s₁ Bd hml0 hP hK
  obtain ⟨rfl, hZ, hh⟩ := hP
  have hx := Bd.exec
  have hby := Bd.bytes
  have hml : c.maxLocals = 1 := hml0
  have hown : s0.vm.findClass "com/example/vestline/vestline/io/Utf8Validator" = some m.cls := findClass_of_methodNamed Bd.named
  have hnm := (name_of_methodNamed Bd.named Bd.method).1
  have X0 : Stand p l e ({ frames := 0, cells := 0, slots := 0, locals := 0 } : Room) s0 m #[(.ref ob)] below meth c s₁ [] 0 0 := Stand.of_body Bd
  have e0 : s₁.heap = h0 := by rw [← hh, Bd.state]; rfl
  have N0 := Fr.nil n0
  have pre0 : ∀ t, Steps p.tables e below (s₁.setTop (mkF m 0 #[.val (.ref ob)] [])) t → Steps p.tables e below (s₁.setTop (entryFrame m #[(.ref ob)] 1)) t := fun t k => castTop (ef_rm3 m ob) k
  obtain ⟨T1, X1, e1, st1⟩ := getF X0 hx hZ hown (host := "") (Or.inl (hw _ (List.mem_of_getElem? (i := 14) rfl))) Via.refl e0 F_p (g := (mkF m 1 #[.val (.ref ob)] [(.ref ob)])) rfl rfl (hb hby d3_1)
  have pre2 : ∀ t, Steps p.tables e below (T1.setTop (mkF m 12 #[.val (.ref ob)] [(.int (if (0 : Int32) < P then (1 : Int32) else (0 : Int32)))])) t → Steps p.tables e below (s₁.setTop (entryFrame m #[(.ref ob)] 1)) t := fun t k => by
    refine pre0 t ?_
    show Steps p.tables e below (s₁.setTop (mkF m 0 #[.val (.ref ob)] [])) _
    refine XS.aloadN X0.here hx rfl (hb hby d3_0) rfl rfl ?_
    show Steps p.tables e below (s₁.setTop (mkF m 1 #[.val (.ref ob)] [(.ref ob)])) _
    refine st1 _ ?_
    show Steps p.tables e below (T1.setTop (mkF m 4 #[.val (.ref ob)] [(.int P)])) _
    refine own_boolI (g := (mkF m 4 #[.val (.ref ob)] [(.int P)])) X1.here hx rfl (hb hby d3_4) (hb hby d3_7) (hb hby d3_8) (hb hby d3_11) rfl (by exact own_b_le _ _) ?_
    exact k
  obtain ⟨fs, hrq, hrun, hended, hW, hsame⟩ := X1.leave (v := some (.int (if (0 : Int32) < P then (1 : Int32) else (0 : Int32)))) (fun h => by rw [Bd.returns] at h; cases h)
  refine ⟨_, _, pre2 _ ?_, hrun, hended, _, _, rfl, ?_, ⟨_, rfl⟩, hW, hsame.mono (by decide) (by decide)⟩
  · show Steps p.tables e below (T1.setTop (mkF m 12 #[.val (.ref ob)] [(.int (if (0 : Int32) < P then (1 : Int32) else (0 : Int32)))])) _
    exact own_retN X1 hx (t := .boolean) Bd.returns (by simp) (hb hby d3_12) (own_nar_if (by decide) (by decide)) hrq
  · show Q3 Z ob P r h0 n0 _ T1.heap _
    rw [e1]
    exact ⟨by rw [hr], N0, rfl⟩
theorem d7_0 : decode prog_59_method_4_code 0 = .ok (.aload_n 0, 1) := by decide +kernel
theorem d7_1 : decode prog_59_method_4_code 1 = .ok (.iload_n 1, 1) := by decide +kernel
theorem d7_2 : decode prog_59_method_4_code 2 = .ok (.putfield 7, 3) := by decide +kernel
theorem d7_5 : decode prog_59_method_4_code 5 = .ok (.aload_n 0, 1) := by decide +kernel
theorem d7_6 : decode prog_59_method_4_code 6 = .ok (.iload_n 2, 1) := by decide +kernel
theorem d7_7 : decode prog_59_method_4_code 7 = .ok (.putfield 13, 3) := by decide +kernel
theorem d7_10 : decode prog_59_method_4_code 10 = .ok (.aload_n 0, 1) := by decide +kernel
theorem d7_11 : decode prog_59_method_4_code 11 = .ok (.iload_n 3, 1) := by decide +kernel
theorem d7_12 : decode prog_59_method_4_code 12 = .ok (.putfield 16, 3) := by decide +kernel
theorem d7_15 : decode prog_59_method_4_code 15 = .ok (.iconst 1, 1) := by decide +kernel
theorem d7_16 : decode prog_59_method_4_code 16 = .ok (.ireturn, 1) := by decide +kernel
theorem ef_rm7 (m : MethodId) (x0 : Addr) (x1 : Int32) (x2 : Int32) (x3 : Int32) : entryFrame m #[(.ref x0), (.int x1), (.int x2), (.int x3)] 4 = mkF m 0 #[.val (.ref x0), .val (.int x1), .val (.int x2), .val (.int x3)] [] := by first | (simp [entryFrame, mkF, argsToLocals, Value.category]; done) | rfl
def Q7 (Z : State) (ob : Addr) (p1 : Int32) (p2 : Int32) (p3 : Int32) (u1 u2 u3 : Value) (h0 : Heap) (n0 : Nat) (v : Option Value) (h : Heap) (L : List Loc) : Prop := v = some (.int 1) ∧ Fr n0 L ∧ Keep h0 h [ob] ∧ Exa Z h ob "com/example/vestline/vestline/io/Utf8Validator" ∧ Fld Z h ob "com/example/vestline/vestline/io/Utf8Validator" "pending" "I" (.int p1) ∧ Fld Z h ob "com/example/vestline/vestline/io/Utf8Validator" "lowest" "I" (.int p2) ∧ Fld Z h ob "com/example/vestline/vestline/io/Utf8Validator" "highest" "I" (.int p3)
set_option maxRecDepth 65536 in
set_option maxHeartbeats 40000000 in
theorem rm7 (l : Launch) (Z : State) (a0 : Array Value) (hw : ∀ d ∈ tables_1, d.before a0 Z = true) (ws : List Jvm.Cond) (ob : Addr) (p1 : Int32) (p2 : Int32) (p3 : Int32) (u1 u2 u3 : Value) (h0 : Heap) (n0 : Nat) (Z0 : n0 ≤ h0.size) (E_ob : Exa Z h0 ob "com/example/vestline/vestline/io/Utf8Validator") (F_pending : Fld Z h0 ob "com/example/vestline/vestline/io/Utf8Validator" "pending" "I" u1) (F_lowest : Fld Z h0 ob "com/example/vestline/vestline/io/Utf8Validator" "lowest" "I" u2) (F_highest : Fld Z h0 ob "com/example/vestline/vestline/io/Utf8Validator" "highest" "I" u3) (g_ob : n0 ≤ ob) :
    MetFree l (⟨"com/example/vestline/vestline/io/Utf8Validator", "expect", "(III)Z"⟩ : MethodName) (head1 (Jvm.Cond.code (⟨"com/example/vestline/vestline/io/Utf8Validator", "expect", "(III)Z"⟩ : MethodName) prog_59_method_4_code 4 (some .boolean) :: ws) ({ frames := 0, cells := 0, slots := 0, locals := 0 } : Room)) (fun a U => a = #[(.ref ob), (.int p1), (.int p2), (.int p3)] ∧ Z.Warmed39 U.vm ∧ U.heap = h0) (fun _ _ _ _ _ => True) (fun _ U o U' => ∃ v L, o = .returned v ∧ Q7 Z ob p1 p2 p3 u1 u2 u3 h0 n0 v U'.heap L ∧ FrameEnd U o U' L ({ frames := 0, cells := 0, slots := 0, locals := 0 } : Room).cells ({ frames := 0, cells := 0, slots := 0, locals := 0 } : Room).slots) := by
  refine MetFree.of_bodySF (plainFor_of_name pn_0) hisR ?_
  intro p e s0 m args below meth c s₁ Bd hml0 hP hK
  obtain ⟨rfl, hZ, hh⟩ := hP
  have hx := Bd.exec
  have hby := Bd.bytes
  have hml : c.maxLocals = 4 := hml0
  have hown : s0.vm.findClass "com/example/vestline/vestline/io/Utf8Validator" = some m.cls := findClass_of_methodNamed Bd.named
  have hnm := (name_of_methodNamed Bd.named Bd.method).1
  have X0 : Stand p l e ({ frames := 0, cells := 0, slots := 0, locals := 0 } : Room) s0 m #[(.ref ob), (.int p1), (.int p2), (.int p3)] below meth c s₁ [] 0 0 := Stand.of_body Bd
  have e0 : s₁.heap = h0 := by rw [← hh, Bd.state]; rfl
  have N0 := Fr.nil n0
  have pre0 : ∀ t, Steps p.tables e below (s₁.setTop (mkF m 0 #[.val (.ref ob), .val (.int p1), .val (.int p2), .val (.int p3)] [])) t → Steps p.tables e below (s₁.setTop (entryFrame m #[(.ref ob), (.int p1), (.int p2), (.int p3)] 4)) t := fun t k => castTop (ef_rm7 m ob p1 p2 p3) k
  obtain ⟨T1, h1, X1, e1, W1, st1⟩ := putF X0 hx hZ hown (host := "") (Or.inl (hw _ (List.mem_of_getElem? (i := 14) rfl))) Via.refl e0 F_pending E_ob (Or.inl (hw _ (List.mem_of_getElem? (i := 15) rfl))) (hw _ (List.mem_of_getElem? (i := 1) rfl)) (ty := .int) (by decide) rfl rfl (g := (mkF m 2 #[.val (.ref ob), .val (.int p1), .val (.int p2), .val (.int p3)] [(.int p1), (.ref ob)])) rfl rfl (hb hby d7_2)
  have Fw1 : Fld Z h1 ob "com/example/vestline/vestline/io/Utf8Validator" "pending" "I" (.int p1) := F_pending.same W1
  have Z2 : n0 ≤ h1.size := Nat.le_trans Z0 (Keep.of_wr W1).1
  have K1 : Keep h0 h1 [ob] := (Keep.refl h0 [ob]).wr W1 (Or.inl (List.mem_of_getElem? (i := 0) rfl))
  have N1 := Fr.snoc X1 N0 g_ob
  have c3 : Exa Z h1 ob "com/example/vestline/vestline/io/Utf8Validator" := (E_ob.wr W1)
  have c4 : Fld Z h1 ob "com/example/vestline/vestline/io/Utf8Validator" "lowest" "I" u2 := (F_lowest.other W1 (Or.inr (slot_ne (a0 := a0) (Or.inl (hw _ (List.mem_of_getElem? (i := 33) rfl))) (Or.inl (hw _ (List.mem_of_getElem? (i := 15) rfl))) (by decide) (t := .int) (t' := .int) (by decide) (by decide))))
  obtain ⟨T5, h5, X5, e5, W5, st5⟩ := putF X1 hx hZ hown (host := "") (Or.inl (hw _ (List.mem_of_getElem? (i := 32) rfl))) Via.refl e1 c4 c3 (Or.inl (hw _ (List.mem_of_getElem? (i := 33) rfl))) (hw _ (List.mem_of_getElem? (i := 1) rfl)) (ty := .int) (by decide) rfl rfl (g := (mkF m 7 #[.val (.ref ob), .val (.int p1), .val (.int p2), .val (.int p3)] [(.int p2), (.ref ob)])) rfl rfl (hb hby d7_7)
  have Fw5 : Fld Z h5 ob "com/example/vestline/vestline/io/Utf8Validator" "lowest" "I" (.int p2) := c4.same W5
  have Z6 : n0 ≤ h5.size := Nat.le_trans Z2 (Keep.of_wr W5).1
  have K5 : Keep h0 h5 [ob] := K1.wr W5 (Or.inl (List.mem_of_getElem? (i := 0) rfl))
  have N5 := Fr.snoc X5 N1 g_ob
  have c7 : Exa Z h5 ob "com/example/vestline/vestline/io/Utf8Validator" := (c3.wr W5)
  have c8 : Fld Z h5 ob "com/example/vestline/vestline/io/Utf8Validator" "highest" "I" u3 := ((F_highest.other W1 (Or.inr (slot_ne (a0 := a0) (Or.inl (hw _ (List.mem_of_getElem? (i := 35) rfl))) (Or.inl (hw _ (List.mem_of_getElem? (i := 15) rfl))) (by decide) (t := .int) (t' := .int) (by decide) (by decide)))).other W5 (Or.inr (slot_ne (a0 := a0) (Or.inl (hw _ (List.mem_of_getElem? (i := 35) rfl))) (Or.inl (hw _ (List.mem_of_getElem? (i := 33) rfl))) (by decide) (t := .int) (t' := .int) (by decide) (by decide))))
  obtain ⟨T9, h9, X9, e9, W9, st9⟩ := putF X5 hx hZ hown (host := "") (Or.inl (hw _ (List.mem_of_getElem? (i := 34) rfl))) Via.refl e5 c8 c7 (Or.inl (hw _ (List.mem_of_getElem? (i := 35) rfl))) (hw _ (List.mem_of_getElem? (i := 1) rfl)) (ty := .int) (by decide) rfl rfl (g := (mkF m 12 #[.val (.ref ob), .val (.int p1), .val (.int p2), .val (.int p3)] [(.int p3), (.ref ob)])) rfl rfl (hb hby d7_12)
  have Fw9 : Fld Z h9 ob "com/example/vestline/vestline/io/Utf8Validator" "highest" "I" (.int p3) := c8.same W9
  have Z10 : n0 ≤ h9.size := Nat.le_trans Z6 (Keep.of_wr W9).1
  have K9 : Keep h0 h9 [ob] := K5.wr W9 (Or.inl (List.mem_of_getElem? (i := 0) rfl))
  have N9 := Fr.snoc X9 N5 g_ob
  have pre11 : ∀ t, Steps p.tables e below (T9.setTop (mkF m 16 #[.val (.ref ob), .val (.int p1), .val (.int p2), .val (.int p3)] [(.int (1 : Int32))])) t → Steps p.tables e below (s₁.setTop (entryFrame m #[(.ref ob), (.int p1), (.int p2), (.int p3)] 4)) t := fun t k => by
    refine pre0 t ?_
    show Steps p.tables e below (s₁.setTop (mkF m 0 #[.val (.ref ob), .val (.int p1), .val (.int p2), .val (.int p3)] [])) _
    refine XS.aloadN X0.here hx rfl (hb hby d7_0) rfl rfl ?_
    show Steps p.tables e below (s₁.setTop (mkF m 1 #[.val (.ref ob), .val (.int p1), .val (.int p2), .val (.int p3)] [(.ref ob)])) _
    refine XS.iloadN X0.here hx rfl (hb hby d7_1) rfl ?_
    show Steps p.tables e below (s₁.setTop (mkF m 2 #[.val (.ref ob), .val (.int p1), .val (.int p2), .val (.int p3)] [(.int p1), (.ref ob)])) _
    refine st1 _ ?_
    show Steps p.tables e below (T1.setTop (mkF m 5 #[.val (.ref ob), .val (.int p1), .val (.int p2), .val (.int p3)] [])) _
    refine XS.aloadN X1.here hx rfl (hb hby d7_5) rfl rfl ?_
    show Steps p.tables e below (T1.setTop (mkF m 6 #[.val (.ref ob), .val (.int p1), .val (.int p2), .val (.int p3)] [(.ref ob)])) _
    refine XS.iloadN X1.here hx rfl (hb hby d7_6) rfl ?_
    show Steps p.tables e below (T1.setTop (mkF m 7 #[.val (.ref ob), .val (.int p1), .val (.int p2), .val (.int p3)] [(.int p2), (.ref ob)])) _
    refine st5 _ ?_
    show Steps p.tables e below (T5.setTop (mkF m 10 #[.val (.ref ob), .val (.int p1), .val (.int p2), .val (.int p3)] [])) _
    refine XS.aloadN X5.here hx rfl (hb hby d7_10) rfl rfl ?_
    show Steps p.tables e below (T5.setTop (mkF m 11 #[.val (.ref ob), .val (.int p1), .val (.int p2), .val (.int p3)] [(.ref ob)])) _
    refine XS.iloadN X5.here hx rfl (hb hby d7_11) rfl ?_
    show Steps p.tables e below (T5.setTop (mkF m 12 #[.val (.ref ob), .val (.int p1), .val (.int p2), .val (.int p3)] [(.int p3), (.ref ob)])) _
    refine st9 _ ?_
    show Steps p.tables e below (T9.setTop (mkF m 15 #[.val (.ref ob), .val (.int p1), .val (.int p2), .val (.int p3)] [])) _
    refine XS.iconst X9.here hx rfl (hb hby d7_15) ?_
    exact k
  obtain ⟨fs, hrq, hrun, hended, hW, hsame⟩ := X9.leave (v := some (.int (1 : Int32))) (fun h => by rw [Bd.returns] at h; cases h)
  refine ⟨_, _, pre11 _ ?_, hrun, hended, _, _, rfl, ?_, ⟨_, rfl⟩, hW, hsame.mono (by decide) (by decide)⟩
  · show Steps p.tables e below (T9.setTop (mkF m 16 #[.val (.ref ob), .val (.int p1), .val (.int p2), .val (.int p3)] [(.int (1 : Int32))])) _
    exact retN X9 hx (t := .boolean) Bd.returns (by simp) (hb hby d7_16) hrq
  · show Q7 Z ob p1 p2 p3 u1 u2 u3 h0 n0 _ T9.heap _
    rw [e9]
    have c12 : Exa Z h9 ob "com/example/vestline/vestline/io/Utf8Validator" := (c7.wr W9)
    have c13 : Fld Z h9 ob "com/example/vestline/vestline/io/Utf8Validator" "pending" "I" (.int p1) := ((Fw1.other W5 (Or.inr (slot_ne (a0 := a0) (Or.inl (hw _ (List.mem_of_getElem? (i := 15) rfl))) (Or.inl (hw _ (List.mem_of_getElem? (i := 33) rfl))) (by decide) (t := .int) (t' := .int) (by decide) (by decide)))).other W9 (Or.inr (slot_ne (a0 := a0) (Or.inl (hw _ (List.mem_of_getElem? (i := 15) rfl))) (Or.inl (hw _ (List.mem_of_getElem? (i := 35) rfl))) (by decide) (t := .int) (t' := .int) (by decide) (by decide))))
    have c14 : Fld Z h9 ob "com/example/vestline/vestline/io/Utf8Validator" "lowest" "I" (.int p2) := (Fw5.other W9 (Or.inr (slot_ne (a0 := a0) (Or.inl (hw _ (List.mem_of_getElem? (i := 33) rfl))) (Or.inl (hw _ (List.mem_of_getElem? (i := 35) rfl))) (by decide) (t := .int) (t' := .int) (by decide) (by decide))))
    exact ⟨rfl, N9, K9, c12, c13, c14, Fw9⟩
theorem d6_0 : decode method_2_code 0 = .ok (.iload_n 0, 1) := by decide +kernel
theorem d6_1 : decode method_2_code 1 = .ok (.sipush 194, 3) := by decide +kernel
theorem d6_4 : decode method_2_code 4 = .ok (.if_icmp .lt 12, 3) := by decide +kernel
theorem d6_7 : decode method_2_code 7 = .ok (.iload_n 0, 1) := by decide +kernel
theorem d6_8 : decode method_2_code 8 = .ok (.sipush 223, 3) := by decide +kernel
theorem d6_11 : decode method_2_code 11 = .ok (.if_icmp .gt 5, 3) := by decide +kernel
theorem d6_14 : decode method_2_code 14 = .ok (.iconst 1, 1) := by decide +kernel
theorem d6_15 : decode method_2_code 15 = .ok (.ireturn, 1) := by decide +kernel
theorem d6_16 : decode method_2_code 16 = .ok (.iload_n 0, 1) := by decide +kernel
theorem d6_17 : decode method_2_code 17 = .ok (.sipush 224, 3) := by decide +kernel
theorem d6_20 : decode method_2_code 20 = .ok (.if_icmp .lt 12, 3) := by decide +kernel
theorem d6_23 : decode method_2_code 23 = .ok (.iload_n 0, 1) := by decide +kernel
theorem d6_24 : decode method_2_code 24 = .ok (.sipush 239, 3) := by decide +kernel
theorem d6_27 : decode method_2_code 27 = .ok (.if_icmp .gt 5, 3) := by decide +kernel
theorem d6_30 : decode method_2_code 30 = .ok (.iconst 2, 1) := by decide +kernel
theorem d6_31 : decode method_2_code 31 = .ok (.ireturn, 1) := by decide +kernel
theorem d6_32 : decode method_2_code 32 = .ok (.iload_n 0, 1) := by decide +kernel
theorem d6_33 : decode method_2_code 33 = .ok (.sipush 240, 3) := by decide +kernel
theorem d6_36 : decode method_2_code 36 = .ok (.if_icmp .lt 12, 3) := by decide +kernel
theorem d6_39 : decode method_2_code 39 = .ok (.iload_n 0, 1) := by decide +kernel
theorem d6_40 : decode method_2_code 40 = .ok (.sipush 244, 3) := by decide +kernel
theorem d6_43 : decode method_2_code 43 = .ok (.if_icmp .gt 5, 3) := by decide +kernel
theorem d6_46 : decode method_2_code 46 = .ok (.iconst 3, 1) := by decide +kernel
theorem d6_47 : decode method_2_code 47 = .ok (.ireturn, 1) := by decide +kernel
theorem d6_48 : decode method_2_code 48 = .ok (.iconst 0, 1) := by decide +kernel
theorem d6_49 : decode method_2_code 49 = .ok (.ireturn, 1) := by decide +kernel
theorem ef_rm6 (m : MethodId) (x0 : Int32) : entryFrame m #[(.int x0)] 1 = mkF m 0 #[.val (.int x0)] [] := by first | (simp [entryFrame, mkF, argsToLocals, Value.category]; done) | rfl
theorem pn_1 : plainName "com/example/vestline/vestline/io/Utf8ValidatorPendingPinLaw" = true := by first | (simp [plainName, overriddenIn]; done) | decide +kernel
def Q6 (Z : State) (p0 : Int32) (h0 : Heap) (n0 : Nat) (v : Option Value) (h : Heap) (L : List Loc) : Prop := v = some (.int (own_need p0)) ∧ Fr n0 L ∧ h = h0
set_option maxRecDepth 65536 in
set_option maxHeartbeats 40000000 in
theorem rm6 (l : Launch) (Z : State) (a0 : Array Value) (hw : ∀ d ∈ tables_1, d.before a0 Z = true) (ws : List Jvm.Cond) (p0 : Int32) (h0 : Heap) (n0 : Nat) (Z0 : n0 ≤ h0.size)  :
    MetFree l (⟨"com/example/vestline/vestline/io/Utf8ValidatorPendingPinLaw", "need", "(I)I"⟩ : MethodName) (head1 (Jvm.Cond.code (⟨"com/example/vestline/vestline/io/Utf8ValidatorPendingPinLaw", "need", "(I)I"⟩ : MethodName) method_2_code 1 (some .int) :: ws) ({ frames := 0, cells := 0, slots := 0, locals := 0 } : Room)) (fun a U => a = #[(.int p0)] ∧ Z.Warmed39 U.vm ∧ U.heap = h0) (fun _ _ _ _ _ => True) (fun _ U o U' => ∃ v L, o = .returned v ∧ Q6 Z p0 h0 n0 v U'.heap L ∧ FrameEnd U o U' L ({ frames := 0, cells := 0, slots := 0, locals := 0 } : Room).cells ({ frames := 0, cells := 0, slots := 0, locals := 0 } : Room).slots) := by
  refine MetFree.of_bodySF (plainFor_of_name pn_1) hisR ?_
  intro p e s0 m args below meth c s₁ Bd hml0 hP hK
  obtain ⟨rfl, hZ, hh⟩ := hP
  have hx := Bd.exec
  have hby := Bd.bytes
  have hml : c.maxLocals = 1 := hml0
  have hown : s0.vm.findClass "com/example/vestline/vestline/io/Utf8ValidatorPendingPinLaw" = some m.cls := findClass_of_methodNamed Bd.named
  have hnm := (name_of_methodNamed Bd.named Bd.method).1
  have X0 : Stand p l e ({ frames := 0, cells := 0, slots := 0, locals := 0 } : Room) s0 m #[(.int p0)] below meth c s₁ [] 0 0 := Stand.of_body Bd
  have e0 : s₁.heap = h0 := by rw [← hh, Bd.state]; rfl
  have N0 := Fr.nil n0
  have pre0 : ∀ t, Steps p.tables e below (s₁.setTop (mkF m 0 #[.val (.int p0)] [])) t → Steps p.tables e below (s₁.setTop (entryFrame m #[(.int p0)] 1)) t := fun t k => castTop (ef_rm6 m p0) k
  have pre1 : ∀ t, Steps p.tables e below (s₁.setTop (mkF m 4 #[.val (.int p0)] [(.int (194 : Int32)), (.int p0)])) t → Steps p.tables e below (s₁.setTop (entryFrame m #[(.int p0)] 1)) t := fun t k => by
    refine pre0 t ?_
    show Steps p.tables e below (s₁.setTop (mkF m 0 #[.val (.int p0)] [])) _
    refine XS.iloadN X0.here hx rfl (hb hby d6_0) rfl ?_
    show Steps p.tables e below (s₁.setTop (mkF m 1 #[.val (.int p0)] [(.int p0)])) _
    refine XS.sipush X0.here hx rfl (hb hby d6_1) ?_
    exact k
  by_cases hc4_2 : p0 < (194 : Int32)
  · have pre3 : ∀ t, Steps p.tables e below (s₁.setTop (mkF m 20 #[.val (.int p0)] [(.int (224 : Int32)), (.int p0)])) t → Steps p.tables e below (s₁.setTop (entryFrame m #[(.int p0)] 1)) t := fun t k => by
      refine pre1 t ?_
      show Steps p.tables e below (s₁.setTop (mkF m 4 #[.val (.int p0)] [(.int (194 : Int32)), (.int p0)])) _
      refine XS.icmpYes X0.here hx rfl (pc0 := 4) (pc' := 16) rfl (hb hby d6_4) rfl (tlt hc4_2).1 (by decide) (by decide) ?_
      show Steps p.tables e below (s₁.setTop (mkF m 16 #[.val (.int p0)] [])) _
      refine XS.iloadN X0.here hx rfl (hb hby d6_16) rfl ?_
      show Steps p.tables e below (s₁.setTop (mkF m 17 #[.val (.int p0)] [(.int p0)])) _
      refine XS.sipush X0.here hx rfl (hb hby d6_17) ?_
      exact k
    by_cases hc20_4 : p0 < (224 : Int32)
    · have pre5 : ∀ t, Steps p.tables e below (s₁.setTop (mkF m 36 #[.val (.int p0)] [(.int (240 : Int32)), (.int p0)])) t → Steps p.tables e below (s₁.setTop (entryFrame m #[(.int p0)] 1)) t := fun t k => by
        refine pre3 t ?_
        show Steps p.tables e below (s₁.setTop (mkF m 20 #[.val (.int p0)] [(.int (224 : Int32)), (.int p0)])) _
        refine XS.icmpYes X0.here hx rfl (pc0 := 20) (pc' := 32) rfl (hb hby d6_20) rfl (tlt hc20_4).1 (by decide) (by decide) ?_
        show Steps p.tables e below (s₁.setTop (mkF m 32 #[.val (.int p0)] [])) _
        refine XS.iloadN X0.here hx rfl (hb hby d6_32) rfl ?_
        show Steps p.tables e below (s₁.setTop (mkF m 33 #[.val (.int p0)] [(.int p0)])) _
        refine XS.sipush X0.here hx rfl (hb hby d6_33) ?_
        exact k
      by_cases hc36_6 : p0 < (240 : Int32)
      · have pre7 : ∀ t, Steps p.tables e below (s₁.setTop (mkF m 49 #[.val (.int p0)] [(.int (0 : Int32))])) t → Steps p.tables e below (s₁.setTop (entryFrame m #[(.int p0)] 1)) t := fun t k => by
          refine pre5 t ?_
          show Steps p.tables e below (s₁.setTop (mkF m 36 #[.val (.int p0)] [(.int (240 : Int32)), (.int p0)])) _
          refine XS.icmpYes X0.here hx rfl (pc0 := 36) (pc' := 48) rfl (hb hby d6_36) rfl (tlt hc36_6).1 (by decide) (by decide) ?_
          show Steps p.tables e below (s₁.setTop (mkF m 48 #[.val (.int p0)] [])) _
          refine XS.iconst X0.here hx rfl (hb hby d6_48) ?_
          exact k
        obtain ⟨fs, hrq, hrun, hended, hW, hsame⟩ := X0.leave (v := some (.int (0 : Int32))) (fun h => by rw [Bd.returns] at h; cases h)
        refine ⟨_, _, pre7 _ ?_, hrun, hended, _, _, rfl, ?_, ⟨_, rfl⟩, hW, hsame.mono (by decide) (by decide)⟩
        · show Steps p.tables e below (s₁.setTop (mkF m 49 #[.val (.int p0)] [(.int (0 : Int32))])) _
          exact retI X0 hx Bd.returns (hb hby d6_49) hrq
        · show Q6 Z p0 h0 n0 _ s₁.heap _
          rw [e0]
          exact ⟨by rw [own_nd0 (Or.inl hc4_2) (Or.inl hc20_4) (Or.inl hc36_6)], N0, rfl⟩
      · have pre8 : ∀ t, Steps p.tables e below (s₁.setTop (mkF m 43 #[.val (.int p0)] [(.int (244 : Int32)), (.int p0)])) t → Steps p.tables e below (s₁.setTop (entryFrame m #[(.int p0)] 1)) t := fun t k => by
          refine pre5 t ?_
          show Steps p.tables e below (s₁.setTop (mkF m 36 #[.val (.int p0)] [(.int (240 : Int32)), (.int p0)])) _
          refine XS.icmpNo X0.here hx rfl (hb hby d6_36) rfl (flt hc36_6).1 ?_
          show Steps p.tables e below (s₁.setTop (mkF m 39 #[.val (.int p0)] [])) _
          refine XS.iloadN X0.here hx rfl (hb hby d6_39) rfl ?_
          show Steps p.tables e below (s₁.setTop (mkF m 40 #[.val (.int p0)] [(.int p0)])) _
          refine XS.sipush X0.here hx rfl (hb hby d6_40) ?_
          exact k
        by_cases hc43_9 : (244 : Int32) < p0
        · have pre10 : ∀ t, Steps p.tables e below (s₁.setTop (mkF m 49 #[.val (.int p0)] [(.int (0 : Int32))])) t → Steps p.tables e below (s₁.setTop (entryFrame m #[(.int p0)] 1)) t := fun t k => by
            refine pre8 t ?_
            show Steps p.tables e below (s₁.setTop (mkF m 43 #[.val (.int p0)] [(.int (244 : Int32)), (.int p0)])) _
            refine XS.icmpYes X0.here hx rfl (pc0 := 43) (pc' := 48) rfl (hb hby d6_43) rfl (tlt hc43_9).2.2.1 (by decide) (by decide) ?_
            show Steps p.tables e below (s₁.setTop (mkF m 48 #[.val (.int p0)] [])) _
            refine XS.iconst X0.here hx rfl (hb hby d6_48) ?_
            exact k
          obtain ⟨fs, hrq, hrun, hended, hW, hsame⟩ := X0.leave (v := some (.int (0 : Int32))) (fun h => by rw [Bd.returns] at h; cases h)
          refine ⟨_, _, pre10 _ ?_, hrun, hended, _, _, rfl, ?_, ⟨_, rfl⟩, hW, hsame.mono (by decide) (by decide)⟩
          · show Steps p.tables e below (s₁.setTop (mkF m 49 #[.val (.int p0)] [(.int (0 : Int32))])) _
            exact retI X0 hx Bd.returns (hb hby d6_49) hrq
          · show Q6 Z p0 h0 n0 _ s₁.heap _
            rw [e0]
            exact ⟨by rw [own_nd0 (Or.inl hc4_2) (Or.inl hc20_4) (Or.inr hc43_9)], N0, rfl⟩
        · have pre11 : ∀ t, Steps p.tables e below (s₁.setTop (mkF m 47 #[.val (.int p0)] [(.int (3 : Int32))])) t → Steps p.tables e below (s₁.setTop (entryFrame m #[(.int p0)] 1)) t := fun t k => by
            refine pre8 t ?_
            show Steps p.tables e below (s₁.setTop (mkF m 43 #[.val (.int p0)] [(.int (244 : Int32)), (.int p0)])) _
            refine XS.icmpNo X0.here hx rfl (hb hby d6_43) rfl (flt hc43_9).2.2.1 ?_
            show Steps p.tables e below (s₁.setTop (mkF m 46 #[.val (.int p0)] [])) _
            refine XS.iconst X0.here hx rfl (hb hby d6_46) ?_
            exact k
          obtain ⟨fs, hrq, hrun, hended, hW, hsame⟩ := X0.leave (v := some (.int (3 : Int32))) (fun h => by rw [Bd.returns] at h; cases h)
          refine ⟨_, _, pre11 _ ?_, hrun, hended, _, _, rfl, ?_, ⟨_, rfl⟩, hW, hsame.mono (by decide) (by decide)⟩
          · show Steps p.tables e below (s₁.setTop (mkF m 47 #[.val (.int p0)] [(.int (3 : Int32))])) _
            exact retI X0 hx Bd.returns (hb hby d6_47) hrq
          · show Q6 Z p0 h0 n0 _ s₁.heap _
            rw [e0]
            exact ⟨by rw [own_nd3 hc36_6 hc43_9], N0, rfl⟩
    · have pre12 : ∀ t, Steps p.tables e below (s₁.setTop (mkF m 27 #[.val (.int p0)] [(.int (239 : Int32)), (.int p0)])) t → Steps p.tables e below (s₁.setTop (entryFrame m #[(.int p0)] 1)) t := fun t k => by
        refine pre3 t ?_
        show Steps p.tables e below (s₁.setTop (mkF m 20 #[.val (.int p0)] [(.int (224 : Int32)), (.int p0)])) _
        refine XS.icmpNo X0.here hx rfl (hb hby d6_20) rfl (flt hc20_4).1 ?_
        show Steps p.tables e below (s₁.setTop (mkF m 23 #[.val (.int p0)] [])) _
        refine XS.iloadN X0.here hx rfl (hb hby d6_23) rfl ?_
        show Steps p.tables e below (s₁.setTop (mkF m 24 #[.val (.int p0)] [(.int p0)])) _
        refine XS.sipush X0.here hx rfl (hb hby d6_24) ?_
        exact k
      by_cases hc27_13 : (239 : Int32) < p0
      · have pre14 : ∀ t, Steps p.tables e below (s₁.setTop (mkF m 36 #[.val (.int p0)] [(.int (240 : Int32)), (.int p0)])) t → Steps p.tables e below (s₁.setTop (entryFrame m #[(.int p0)] 1)) t := fun t k => by
          refine pre12 t ?_
          show Steps p.tables e below (s₁.setTop (mkF m 27 #[.val (.int p0)] [(.int (239 : Int32)), (.int p0)])) _
          refine XS.icmpYes X0.here hx rfl (pc0 := 27) (pc' := 32) rfl (hb hby d6_27) rfl (tlt hc27_13).2.2.1 (by decide) (by decide) ?_
          show Steps p.tables e below (s₁.setTop (mkF m 32 #[.val (.int p0)] [])) _
          refine XS.iloadN X0.here hx rfl (hb hby d6_32) rfl ?_
          show Steps p.tables e below (s₁.setTop (mkF m 33 #[.val (.int p0)] [(.int p0)])) _
          refine XS.sipush X0.here hx rfl (hb hby d6_33) ?_
          exact k
        by_cases hc36_15 : p0 < (240 : Int32)
        · have pre16 : ∀ t, Steps p.tables e below (s₁.setTop (mkF m 49 #[.val (.int p0)] [(.int (0 : Int32))])) t → Steps p.tables e below (s₁.setTop (entryFrame m #[(.int p0)] 1)) t := fun t k => by
            refine pre14 t ?_
            show Steps p.tables e below (s₁.setTop (mkF m 36 #[.val (.int p0)] [(.int (240 : Int32)), (.int p0)])) _
            refine XS.icmpYes X0.here hx rfl (pc0 := 36) (pc' := 48) rfl (hb hby d6_36) rfl (tlt hc36_15).1 (by decide) (by decide) ?_
            show Steps p.tables e below (s₁.setTop (mkF m 48 #[.val (.int p0)] [])) _
            refine XS.iconst X0.here hx rfl (hb hby d6_48) ?_
            exact k
          obtain ⟨fs, hrq, hrun, hended, hW, hsame⟩ := X0.leave (v := some (.int (0 : Int32))) (fun h => by rw [Bd.returns] at h; cases h)
          refine ⟨_, _, pre16 _ ?_, hrun, hended, _, _, rfl, ?_, ⟨_, rfl⟩, hW, hsame.mono (by decide) (by decide)⟩
          · show Steps p.tables e below (s₁.setTop (mkF m 49 #[.val (.int p0)] [(.int (0 : Int32))])) _
            exact retI X0 hx Bd.returns (hb hby d6_49) hrq
          · show Q6 Z p0 h0 n0 _ s₁.heap _
            rw [e0]
            exact ⟨by rw [own_nd0 (Or.inl hc4_2) (Or.inr hc27_13) (Or.inl hc36_15)], N0, rfl⟩
        · have pre17 : ∀ t, Steps p.tables e below (s₁.setTop (mkF m 43 #[.val (.int p0)] [(.int (244 : Int32)), (.int p0)])) t → Steps p.tables e below (s₁.setTop (entryFrame m #[(.int p0)] 1)) t := fun t k => by
            refine pre14 t ?_
            show Steps p.tables e below (s₁.setTop (mkF m 36 #[.val (.int p0)] [(.int (240 : Int32)), (.int p0)])) _
            refine XS.icmpNo X0.here hx rfl (hb hby d6_36) rfl (flt hc36_15).1 ?_
            show Steps p.tables e below (s₁.setTop (mkF m 39 #[.val (.int p0)] [])) _
            refine XS.iloadN X0.here hx rfl (hb hby d6_39) rfl ?_
            show Steps p.tables e below (s₁.setTop (mkF m 40 #[.val (.int p0)] [(.int p0)])) _
            refine XS.sipush X0.here hx rfl (hb hby d6_40) ?_
            exact k
          by_cases hc43_18 : (244 : Int32) < p0
          · have pre19 : ∀ t, Steps p.tables e below (s₁.setTop (mkF m 49 #[.val (.int p0)] [(.int (0 : Int32))])) t → Steps p.tables e below (s₁.setTop (entryFrame m #[(.int p0)] 1)) t := fun t k => by
              refine pre17 t ?_
              show Steps p.tables e below (s₁.setTop (mkF m 43 #[.val (.int p0)] [(.int (244 : Int32)), (.int p0)])) _
              refine XS.icmpYes X0.here hx rfl (pc0 := 43) (pc' := 48) rfl (hb hby d6_43) rfl (tlt hc43_18).2.2.1 (by decide) (by decide) ?_
              show Steps p.tables e below (s₁.setTop (mkF m 48 #[.val (.int p0)] [])) _
              refine XS.iconst X0.here hx rfl (hb hby d6_48) ?_
              exact k
            obtain ⟨fs, hrq, hrun, hended, hW, hsame⟩ := X0.leave (v := some (.int (0 : Int32))) (fun h => by rw [Bd.returns] at h; cases h)
            refine ⟨_, _, pre19 _ ?_, hrun, hended, _, _, rfl, ?_, ⟨_, rfl⟩, hW, hsame.mono (by decide) (by decide)⟩
            · show Steps p.tables e below (s₁.setTop (mkF m 49 #[.val (.int p0)] [(.int (0 : Int32))])) _
              exact retI X0 hx Bd.returns (hb hby d6_49) hrq
            · show Q6 Z p0 h0 n0 _ s₁.heap _
              rw [e0]
              exact ⟨by rw [own_nd0 (Or.inl hc4_2) (Or.inr hc27_13) (Or.inr hc43_18)], N0, rfl⟩
          · have pre20 : ∀ t, Steps p.tables e below (s₁.setTop (mkF m 47 #[.val (.int p0)] [(.int (3 : Int32))])) t → Steps p.tables e below (s₁.setTop (entryFrame m #[(.int p0)] 1)) t := fun t k => by
              refine pre17 t ?_
              show Steps p.tables e below (s₁.setTop (mkF m 43 #[.val (.int p0)] [(.int (244 : Int32)), (.int p0)])) _
              refine XS.icmpNo X0.here hx rfl (hb hby d6_43) rfl (flt hc43_18).2.2.1 ?_
              show Steps p.tables e below (s₁.setTop (mkF m 46 #[.val (.int p0)] [])) _
              refine XS.iconst X0.here hx rfl (hb hby d6_46) ?_
              exact k
            obtain ⟨fs, hrq, hrun, hended, hW, hsame⟩ := X0.leave (v := some (.int (3 : Int32))) (fun h => by rw [Bd.returns] at h; cases h)
            refine ⟨_, _, pre20 _ ?_, hrun, hended, _, _, rfl, ?_, ⟨_, rfl⟩, hW, hsame.mono (by decide) (by decide)⟩
            · show Steps p.tables e below (s₁.setTop (mkF m 47 #[.val (.int p0)] [(.int (3 : Int32))])) _
              exact retI X0 hx Bd.returns (hb hby d6_47) hrq
            · show Q6 Z p0 h0 n0 _ s₁.heap _
              rw [e0]
              exact ⟨by rw [own_nd3 hc36_15 hc43_18], N0, rfl⟩
      · have pre21 : ∀ t, Steps p.tables e below (s₁.setTop (mkF m 31 #[.val (.int p0)] [(.int (2 : Int32))])) t → Steps p.tables e below (s₁.setTop (entryFrame m #[(.int p0)] 1)) t := fun t k => by
          refine pre12 t ?_
          show Steps p.tables e below (s₁.setTop (mkF m 27 #[.val (.int p0)] [(.int (239 : Int32)), (.int p0)])) _
          refine XS.icmpNo X0.here hx rfl (hb hby d6_27) rfl (flt hc27_13).2.2.1 ?_
          show Steps p.tables e below (s₁.setTop (mkF m 30 #[.val (.int p0)] [])) _
          refine XS.iconst X0.here hx rfl (hb hby d6_30) ?_
          exact k
        obtain ⟨fs, hrq, hrun, hended, hW, hsame⟩ := X0.leave (v := some (.int (2 : Int32))) (fun h => by rw [Bd.returns] at h; cases h)
        refine ⟨_, _, pre21 _ ?_, hrun, hended, _, _, rfl, ?_, ⟨_, rfl⟩, hW, hsame.mono (by decide) (by decide)⟩
        · show Steps p.tables e below (s₁.setTop (mkF m 31 #[.val (.int p0)] [(.int (2 : Int32))])) _
          exact retI X0 hx Bd.returns (hb hby d6_31) hrq
        · show Q6 Z p0 h0 n0 _ s₁.heap _
          rw [e0]
          exact ⟨by rw [own_nd2 hc20_4 hc27_13], N0, rfl⟩
  · have pre22 : ∀ t, Steps p.tables e below (s₁.setTop (mkF m 11 #[.val (.int p0)] [(.int (223 : Int32)), (.int p0)])) t → Steps p.tables e below (s₁.setTop (entryFrame m #[(.int p0)] 1)) t := fun t k => by
      refine pre1 t ?_
      show Steps p.tables e below (s₁.setTop (mkF m 4 #[.val (.int p0)] [(.int (194 : Int32)), (.int p0)])) _
      refine XS.icmpNo X0.here hx rfl (hb hby d6_4) rfl (flt hc4_2).1 ?_
      show Steps p.tables e below (s₁.setTop (mkF m 7 #[.val (.int p0)] [])) _
      refine XS.iloadN X0.here hx rfl (hb hby d6_7) rfl ?_
      show Steps p.tables e below (s₁.setTop (mkF m 8 #[.val (.int p0)] [(.int p0)])) _
      refine XS.sipush X0.here hx rfl (hb hby d6_8) ?_
      exact k
    by_cases hc11_23 : (223 : Int32) < p0
    · have pre24 : ∀ t, Steps p.tables e below (s₁.setTop (mkF m 20 #[.val (.int p0)] [(.int (224 : Int32)), (.int p0)])) t → Steps p.tables e below (s₁.setTop (entryFrame m #[(.int p0)] 1)) t := fun t k => by
        refine pre22 t ?_
        show Steps p.tables e below (s₁.setTop (mkF m 11 #[.val (.int p0)] [(.int (223 : Int32)), (.int p0)])) _
        refine XS.icmpYes X0.here hx rfl (pc0 := 11) (pc' := 16) rfl (hb hby d6_11) rfl (tlt hc11_23).2.2.1 (by decide) (by decide) ?_
        show Steps p.tables e below (s₁.setTop (mkF m 16 #[.val (.int p0)] [])) _
        refine XS.iloadN X0.here hx rfl (hb hby d6_16) rfl ?_
        show Steps p.tables e below (s₁.setTop (mkF m 17 #[.val (.int p0)] [(.int p0)])) _
        refine XS.sipush X0.here hx rfl (hb hby d6_17) ?_
        exact k
      by_cases hc20_25 : p0 < (224 : Int32)
      · have pre26 : ∀ t, Steps p.tables e below (s₁.setTop (mkF m 36 #[.val (.int p0)] [(.int (240 : Int32)), (.int p0)])) t → Steps p.tables e below (s₁.setTop (entryFrame m #[(.int p0)] 1)) t := fun t k => by
          refine pre24 t ?_
          show Steps p.tables e below (s₁.setTop (mkF m 20 #[.val (.int p0)] [(.int (224 : Int32)), (.int p0)])) _
          refine XS.icmpYes X0.here hx rfl (pc0 := 20) (pc' := 32) rfl (hb hby d6_20) rfl (tlt hc20_25).1 (by decide) (by decide) ?_
          show Steps p.tables e below (s₁.setTop (mkF m 32 #[.val (.int p0)] [])) _
          refine XS.iloadN X0.here hx rfl (hb hby d6_32) rfl ?_
          show Steps p.tables e below (s₁.setTop (mkF m 33 #[.val (.int p0)] [(.int p0)])) _
          refine XS.sipush X0.here hx rfl (hb hby d6_33) ?_
          exact k
        by_cases hc36_27 : p0 < (240 : Int32)
        · have pre28 : ∀ t, Steps p.tables e below (s₁.setTop (mkF m 49 #[.val (.int p0)] [(.int (0 : Int32))])) t → Steps p.tables e below (s₁.setTop (entryFrame m #[(.int p0)] 1)) t := fun t k => by
            refine pre26 t ?_
            show Steps p.tables e below (s₁.setTop (mkF m 36 #[.val (.int p0)] [(.int (240 : Int32)), (.int p0)])) _
            refine XS.icmpYes X0.here hx rfl (pc0 := 36) (pc' := 48) rfl (hb hby d6_36) rfl (tlt hc36_27).1 (by decide) (by decide) ?_
            show Steps p.tables e below (s₁.setTop (mkF m 48 #[.val (.int p0)] [])) _
            refine XS.iconst X0.here hx rfl (hb hby d6_48) ?_
            exact k
          obtain ⟨fs, hrq, hrun, hended, hW, hsame⟩ := X0.leave (v := some (.int (0 : Int32))) (fun h => by rw [Bd.returns] at h; cases h)
          refine ⟨_, _, pre28 _ ?_, hrun, hended, _, _, rfl, ?_, ⟨_, rfl⟩, hW, hsame.mono (by decide) (by decide)⟩
          · show Steps p.tables e below (s₁.setTop (mkF m 49 #[.val (.int p0)] [(.int (0 : Int32))])) _
            exact retI X0 hx Bd.returns (hb hby d6_49) hrq
          · show Q6 Z p0 h0 n0 _ s₁.heap _
            rw [e0]
            exact ⟨by rw [own_nd0 (Or.inr hc11_23) (Or.inl hc20_25) (Or.inl hc36_27)], N0, rfl⟩
        · have pre29 : ∀ t, Steps p.tables e below (s₁.setTop (mkF m 43 #[.val (.int p0)] [(.int (244 : Int32)), (.int p0)])) t → Steps p.tables e below (s₁.setTop (entryFrame m #[(.int p0)] 1)) t := fun t k => by
            refine pre26 t ?_
            show Steps p.tables e below (s₁.setTop (mkF m 36 #[.val (.int p0)] [(.int (240 : Int32)), (.int p0)])) _
            refine XS.icmpNo X0.here hx rfl (hb hby d6_36) rfl (flt hc36_27).1 ?_
            show Steps p.tables e below (s₁.setTop (mkF m 39 #[.val (.int p0)] [])) _
            refine XS.iloadN X0.here hx rfl (hb hby d6_39) rfl ?_
            show Steps p.tables e below (s₁.setTop (mkF m 40 #[.val (.int p0)] [(.int p0)])) _
            refine XS.sipush X0.here hx rfl (hb hby d6_40) ?_
            exact k
          by_cases hc43_30 : (244 : Int32) < p0
          · have pre31 : ∀ t, Steps p.tables e below (s₁.setTop (mkF m 49 #[.val (.int p0)] [(.int (0 : Int32))])) t → Steps p.tables e below (s₁.setTop (entryFrame m #[(.int p0)] 1)) t := fun t k => by
              refine pre29 t ?_
              show Steps p.tables e below (s₁.setTop (mkF m 43 #[.val (.int p0)] [(.int (244 : Int32)), (.int p0)])) _
              refine XS.icmpYes X0.here hx rfl (pc0 := 43) (pc' := 48) rfl (hb hby d6_43) rfl (tlt hc43_30).2.2.1 (by decide) (by decide) ?_
              show Steps p.tables e below (s₁.setTop (mkF m 48 #[.val (.int p0)] [])) _
              refine XS.iconst X0.here hx rfl (hb hby d6_48) ?_
              exact k
            obtain ⟨fs, hrq, hrun, hended, hW, hsame⟩ := X0.leave (v := some (.int (0 : Int32))) (fun h => by rw [Bd.returns] at h; cases h)
            refine ⟨_, _, pre31 _ ?_, hrun, hended, _, _, rfl, ?_, ⟨_, rfl⟩, hW, hsame.mono (by decide) (by decide)⟩
            · show Steps p.tables e below (s₁.setTop (mkF m 49 #[.val (.int p0)] [(.int (0 : Int32))])) _
              exact retI X0 hx Bd.returns (hb hby d6_49) hrq
            · show Q6 Z p0 h0 n0 _ s₁.heap _
              rw [e0]
              exact ⟨by rw [own_nd0 (Or.inr hc11_23) (Or.inl hc20_25) (Or.inr hc43_30)], N0, rfl⟩
          · have pre32 : ∀ t, Steps p.tables e below (s₁.setTop (mkF m 47 #[.val (.int p0)] [(.int (3 : Int32))])) t → Steps p.tables e below (s₁.setTop (entryFrame m #[(.int p0)] 1)) t := fun t k => by
              refine pre29 t ?_
              show Steps p.tables e below (s₁.setTop (mkF m 43 #[.val (.int p0)] [(.int (244 : Int32)), (.int p0)])) _
              refine XS.icmpNo X0.here hx rfl (hb hby d6_43) rfl (flt hc43_30).2.2.1 ?_
              show Steps p.tables e below (s₁.setTop (mkF m 46 #[.val (.int p0)] [])) _
              refine XS.iconst X0.here hx rfl (hb hby d6_46) ?_
              exact k
            obtain ⟨fs, hrq, hrun, hended, hW, hsame⟩ := X0.leave (v := some (.int (3 : Int32))) (fun h => by rw [Bd.returns] at h; cases h)
            refine ⟨_, _, pre32 _ ?_, hrun, hended, _, _, rfl, ?_, ⟨_, rfl⟩, hW, hsame.mono (by decide) (by decide)⟩
            · show Steps p.tables e below (s₁.setTop (mkF m 47 #[.val (.int p0)] [(.int (3 : Int32))])) _
              exact retI X0 hx Bd.returns (hb hby d6_47) hrq
            · show Q6 Z p0 h0 n0 _ s₁.heap _
              rw [e0]
              exact ⟨by rw [own_nd3 hc36_27 hc43_30], N0, rfl⟩
      · have pre33 : ∀ t, Steps p.tables e below (s₁.setTop (mkF m 27 #[.val (.int p0)] [(.int (239 : Int32)), (.int p0)])) t → Steps p.tables e below (s₁.setTop (entryFrame m #[(.int p0)] 1)) t := fun t k => by
          refine pre24 t ?_
          show Steps p.tables e below (s₁.setTop (mkF m 20 #[.val (.int p0)] [(.int (224 : Int32)), (.int p0)])) _
          refine XS.icmpNo X0.here hx rfl (hb hby d6_20) rfl (flt hc20_25).1 ?_
          show Steps p.tables e below (s₁.setTop (mkF m 23 #[.val (.int p0)] [])) _
          refine XS.iloadN X0.here hx rfl (hb hby d6_23) rfl ?_
          show Steps p.tables e below (s₁.setTop (mkF m 24 #[.val (.int p0)] [(.int p0)])) _
          refine XS.sipush X0.here hx rfl (hb hby d6_24) ?_
          exact k
        by_cases hc27_34 : (239 : Int32) < p0
        · have pre35 : ∀ t, Steps p.tables e below (s₁.setTop (mkF m 36 #[.val (.int p0)] [(.int (240 : Int32)), (.int p0)])) t → Steps p.tables e below (s₁.setTop (entryFrame m #[(.int p0)] 1)) t := fun t k => by
            refine pre33 t ?_
            show Steps p.tables e below (s₁.setTop (mkF m 27 #[.val (.int p0)] [(.int (239 : Int32)), (.int p0)])) _
            refine XS.icmpYes X0.here hx rfl (pc0 := 27) (pc' := 32) rfl (hb hby d6_27) rfl (tlt hc27_34).2.2.1 (by decide) (by decide) ?_
            show Steps p.tables e below (s₁.setTop (mkF m 32 #[.val (.int p0)] [])) _
            refine XS.iloadN X0.here hx rfl (hb hby d6_32) rfl ?_
            show Steps p.tables e below (s₁.setTop (mkF m 33 #[.val (.int p0)] [(.int p0)])) _
            refine XS.sipush X0.here hx rfl (hb hby d6_33) ?_
            exact k
          by_cases hc36_36 : p0 < (240 : Int32)
          · have pre37 : ∀ t, Steps p.tables e below (s₁.setTop (mkF m 49 #[.val (.int p0)] [(.int (0 : Int32))])) t → Steps p.tables e below (s₁.setTop (entryFrame m #[(.int p0)] 1)) t := fun t k => by
              refine pre35 t ?_
              show Steps p.tables e below (s₁.setTop (mkF m 36 #[.val (.int p0)] [(.int (240 : Int32)), (.int p0)])) _
              refine XS.icmpYes X0.here hx rfl (pc0 := 36) (pc' := 48) rfl (hb hby d6_36) rfl (tlt hc36_36).1 (by decide) (by decide) ?_
              show Steps p.tables e below (s₁.setTop (mkF m 48 #[.val (.int p0)] [])) _
              refine XS.iconst X0.here hx rfl (hb hby d6_48) ?_
              exact k
            obtain ⟨fs, hrq, hrun, hended, hW, hsame⟩ := X0.leave (v := some (.int (0 : Int32))) (fun h => by rw [Bd.returns] at h; cases h)
            refine ⟨_, _, pre37 _ ?_, hrun, hended, _, _, rfl, ?_, ⟨_, rfl⟩, hW, hsame.mono (by decide) (by decide)⟩
            · show Steps p.tables e below (s₁.setTop (mkF m 49 #[.val (.int p0)] [(.int (0 : Int32))])) _
              exact retI X0 hx Bd.returns (hb hby d6_49) hrq
            · show Q6 Z p0 h0 n0 _ s₁.heap _
              rw [e0]
              exact ⟨by rw [own_nd0 (Or.inr hc11_23) (Or.inr hc27_34) (Or.inl hc36_36)], N0, rfl⟩
          · have pre38 : ∀ t, Steps p.tables e below (s₁.setTop (mkF m 43 #[.val (.int p0)] [(.int (244 : Int32)), (.int p0)])) t → Steps p.tables e below (s₁.setTop (entryFrame m #[(.int p0)] 1)) t := fun t k => by
              refine pre35 t ?_
              show Steps p.tables e below (s₁.setTop (mkF m 36 #[.val (.int p0)] [(.int (240 : Int32)), (.int p0)])) _
              refine XS.icmpNo X0.here hx rfl (hb hby d6_36) rfl (flt hc36_36).1 ?_
              show Steps p.tables e below (s₁.setTop (mkF m 39 #[.val (.int p0)] [])) _
              refine XS.iloadN X0.here hx rfl (hb hby d6_39) rfl ?_
              show Steps p.tables e below (s₁.setTop (mkF m 40 #[.val (.int p0)] [(.int p0)])) _
              refine XS.sipush X0.here hx rfl (hb hby d6_40) ?_
              exact k
            by_cases hc43_39 : (244 : Int32) < p0
            · have pre40 : ∀ t, Steps p.tables e below (s₁.setTop (mkF m 49 #[.val (.int p0)] [(.int (0 : Int32))])) t → Steps p.tables e below (s₁.setTop (entryFrame m #[(.int p0)] 1)) t := fun t k => by
                refine pre38 t ?_
                show Steps p.tables e below (s₁.setTop (mkF m 43 #[.val (.int p0)] [(.int (244 : Int32)), (.int p0)])) _
                refine XS.icmpYes X0.here hx rfl (pc0 := 43) (pc' := 48) rfl (hb hby d6_43) rfl (tlt hc43_39).2.2.1 (by decide) (by decide) ?_
                show Steps p.tables e below (s₁.setTop (mkF m 48 #[.val (.int p0)] [])) _
                refine XS.iconst X0.here hx rfl (hb hby d6_48) ?_
                exact k
              obtain ⟨fs, hrq, hrun, hended, hW, hsame⟩ := X0.leave (v := some (.int (0 : Int32))) (fun h => by rw [Bd.returns] at h; cases h)
              refine ⟨_, _, pre40 _ ?_, hrun, hended, _, _, rfl, ?_, ⟨_, rfl⟩, hW, hsame.mono (by decide) (by decide)⟩
              · show Steps p.tables e below (s₁.setTop (mkF m 49 #[.val (.int p0)] [(.int (0 : Int32))])) _
                exact retI X0 hx Bd.returns (hb hby d6_49) hrq
              · show Q6 Z p0 h0 n0 _ s₁.heap _
                rw [e0]
                exact ⟨by rw [own_nd0 (Or.inr hc11_23) (Or.inr hc27_34) (Or.inr hc43_39)], N0, rfl⟩
            · have pre41 : ∀ t, Steps p.tables e below (s₁.setTop (mkF m 47 #[.val (.int p0)] [(.int (3 : Int32))])) t → Steps p.tables e below (s₁.setTop (entryFrame m #[(.int p0)] 1)) t := fun t k => by
                refine pre38 t ?_
                show Steps p.tables e below (s₁.setTop (mkF m 43 #[.val (.int p0)] [(.int (244 : Int32)), (.int p0)])) _
                refine XS.icmpNo X0.here hx rfl (hb hby d6_43) rfl (flt hc43_39).2.2.1 ?_
                show Steps p.tables e below (s₁.setTop (mkF m 46 #[.val (.int p0)] [])) _
                refine XS.iconst X0.here hx rfl (hb hby d6_46) ?_
                exact k
              obtain ⟨fs, hrq, hrun, hended, hW, hsame⟩ := X0.leave (v := some (.int (3 : Int32))) (fun h => by rw [Bd.returns] at h; cases h)
              refine ⟨_, _, pre41 _ ?_, hrun, hended, _, _, rfl, ?_, ⟨_, rfl⟩, hW, hsame.mono (by decide) (by decide)⟩
              · show Steps p.tables e below (s₁.setTop (mkF m 47 #[.val (.int p0)] [(.int (3 : Int32))])) _
                exact retI X0 hx Bd.returns (hb hby d6_47) hrq
              · show Q6 Z p0 h0 n0 _ s₁.heap _
                rw [e0]
                exact ⟨by rw [own_nd3 hc36_36 hc43_39], N0, rfl⟩
        · have pre42 : ∀ t, Steps p.tables e below (s₁.setTop (mkF m 31 #[.val (.int p0)] [(.int (2 : Int32))])) t → Steps p.tables e below (s₁.setTop (entryFrame m #[(.int p0)] 1)) t := fun t k => by
            refine pre33 t ?_
            show Steps p.tables e below (s₁.setTop (mkF m 27 #[.val (.int p0)] [(.int (239 : Int32)), (.int p0)])) _
            refine XS.icmpNo X0.here hx rfl (hb hby d6_27) rfl (flt hc27_34).2.2.1 ?_
            show Steps p.tables e below (s₁.setTop (mkF m 30 #[.val (.int p0)] [])) _
            refine XS.iconst X0.here hx rfl (hb hby d6_30) ?_
            exact k
          obtain ⟨fs, hrq, hrun, hended, hW, hsame⟩ := X0.leave (v := some (.int (2 : Int32))) (fun h => by rw [Bd.returns] at h; cases h)
          refine ⟨_, _, pre42 _ ?_, hrun, hended, _, _, rfl, ?_, ⟨_, rfl⟩, hW, hsame.mono (by decide) (by decide)⟩
          · show Steps p.tables e below (s₁.setTop (mkF m 31 #[.val (.int p0)] [(.int (2 : Int32))])) _
            exact retI X0 hx Bd.returns (hb hby d6_31) hrq
          · show Q6 Z p0 h0 n0 _ s₁.heap _
            rw [e0]
            exact ⟨by rw [own_nd2 hc20_25 hc27_34], N0, rfl⟩
    · have pre43 : ∀ t, Steps p.tables e below (s₁.setTop (mkF m 15 #[.val (.int p0)] [(.int (1 : Int32))])) t → Steps p.tables e below (s₁.setTop (entryFrame m #[(.int p0)] 1)) t := fun t k => by
        refine pre22 t ?_
        show Steps p.tables e below (s₁.setTop (mkF m 11 #[.val (.int p0)] [(.int (223 : Int32)), (.int p0)])) _
        refine XS.icmpNo X0.here hx rfl (hb hby d6_11) rfl (flt hc11_23).2.2.1 ?_
        show Steps p.tables e below (s₁.setTop (mkF m 14 #[.val (.int p0)] [])) _
        refine XS.iconst X0.here hx rfl (hb hby d6_14) ?_
        exact k
      obtain ⟨fs, hrq, hrun, hended, hW, hsame⟩ := X0.leave (v := some (.int (1 : Int32))) (fun h => by rw [Bd.returns] at h; cases h)
      refine ⟨_, _, pre43 _ ?_, hrun, hended, _, _, rfl, ?_, ⟨_, rfl⟩, hW, hsame.mono (by decide) (by decide)⟩
      · show Steps p.tables e below (s₁.setTop (mkF m 15 #[.val (.int p0)] [(.int (1 : Int32))])) _
        exact retI X0 hx Bd.returns (hb hby d6_15) hrq
      · show Q6 Z p0 h0 n0 _ s₁.heap _
        rw [e0]
        exact ⟨by rw [own_nd1 hc4_2 hc11_23], N0, rfl⟩
theorem pd_0 : parseMethodDescriptor "(I)I" = some ⟨[.int], some .int⟩ := by decide +kernel
theorem d5_0 : decode method_3_code 0 = .ok (.iload_n 0, 1) := by decide +kernel
theorem d5_1 : decode method_3_code 1 = .ok (.ifCond .le 7, 3) := by decide +kernel
theorem d5_4 : decode method_3_code 4 = .ok (.iload_n 0, 1) := by decide +kernel
theorem d5_5 : decode method_3_code 5 = .ok (.iconst 1, 1) := by decide +kernel
theorem d5_6 : decode method_3_code 6 = .ok (.isub, 1) := by decide +kernel
theorem d5_7 : decode method_3_code 7 = .ok (.ireturn, 1) := by decide +kernel
theorem d5_8 : decode method_3_code 8 = .ok (.iload_n 1, 1) := by decide +kernel
theorem d5_9 : decode method_3_code 9 = .ok (.invokestatic 7, 3) := by decide +kernel
theorem d5_12 : decode method_3_code 12 = .ok (.ireturn, 1) := by decide +kernel
theorem ef_rm5 (m : MethodId) (x0 : Int32) (x1 : Int32) : entryFrame m #[(.int x0), (.int x1)] 2 = mkF m 0 #[.val (.int x0), .val (.int x1)] [] := by first | (simp [entryFrame, mkF, argsToLocals, Value.category]; done) | rfl
def Q5 (Z : State) (p0 : Int32) (p1 : Int32) (h0 : Heap) (n0 : Nat) (v : Option Value) (h : Heap) (L : List Loc) : Prop := v = some (.int (own_next p0 p1)) ∧ Fr n0 L ∧ h = h0
set_option maxRecDepth 65536 in
set_option maxHeartbeats 40000000 in
theorem rm5 (l : Launch) (Z : State) (a0 : Array Value) (hw : ∀ d ∈ tables_1, d.before a0 Z = true) (ws : List Jvm.Cond) (p0 : Int32) (p1 : Int32) (h0 : Heap) (n0 : Nat) (Z0 : n0 ≤ h0.size)  :
    MetFree l (⟨"com/example/vestline/vestline/io/Utf8ValidatorPendingPinLaw", "next", "(II)I"⟩ : MethodName) (head1 (Jvm.Cond.code (⟨"com/example/vestline/vestline/io/Utf8ValidatorPendingPinLaw", "next", "(II)I"⟩ : MethodName) method_3_code 2 (some .int) :: ws) ({ frames := 1, cells := 0, slots := 0, locals := 12 } : Room)) (fun a U => a = #[(.int p0), (.int p1)] ∧ Z.Warmed39 U.vm ∧ U.heap = h0) (fun _ _ _ _ _ => True) (fun _ U o U' => ∃ v L, o = .returned v ∧ Q5 Z p0 p1 h0 n0 v U'.heap L ∧ FrameEnd U o U' L ({ frames := 1, cells := 0, slots := 0, locals := 12 } : Room).cells ({ frames := 1, cells := 0, slots := 0, locals := 12 } : Room).slots) := by
  refine MetFree.of_bodySF (plainFor_of_name pn_1) hisR ?_
  intro p e s0 m args below meth c s₁ Bd hml0 hP hK
  obtain ⟨rfl, hZ, hh⟩ := hP
  have hx := Bd.exec
  have hby := Bd.bytes
  have hml : c.maxLocals = 2 := hml0
  have hown : s0.vm.findClass "com/example/vestline/vestline/io/Utf8ValidatorPendingPinLaw" = some m.cls := findClass_of_methodNamed Bd.named
  have hnm := (name_of_methodNamed Bd.named Bd.method).1
  have X0 : Stand p l e ({ frames := 1, cells := 0, slots := 0, locals := 12 } : Room) s0 m #[(.int p0), (.int p1)] below meth c s₁ [] 0 0 := Stand.of_body Bd
  have e0 : s₁.heap = h0 := by rw [← hh, Bd.state]; rfl
  have N0 := Fr.nil n0
  have pre0 : ∀ t, Steps p.tables e below (s₁.setTop (mkF m 0 #[.val (.int p0), .val (.int p1)] [])) t → Steps p.tables e below (s₁.setTop (entryFrame m #[(.int p0), (.int p1)] 2)) t := fun t k => castTop (ef_rm5 m p0 p1) k
  have pre1 : ∀ t, Steps p.tables e below (s₁.setTop (mkF m 1 #[.val (.int p0), .val (.int p1)] [(.int p0)])) t → Steps p.tables e below (s₁.setTop (entryFrame m #[(.int p0), (.int p1)] 2)) t := fun t k => by
    refine pre0 t ?_
    show Steps p.tables e below (s₁.setTop (mkF m 0 #[.val (.int p0), .val (.int p1)] [])) _
    refine XS.iloadN X0.here hx rfl (hb hby d5_0) rfl ?_
    exact k
  by_cases hc1_2 : (0 : Int32) < p0
  · have pre3 : ∀ t, Steps p.tables e below (s₁.setTop (mkF m 7 #[.val (.int p0), .val (.int p1)] [(.int (p0 - (1 : Int32)))])) t → Steps p.tables e below (s₁.setTop (entryFrame m #[(.int p0), (.int p1)] 2)) t := fun t k => by
      refine pre1 t ?_
      show Steps p.tables e below (s₁.setTop (mkF m 1 #[.val (.int p0), .val (.int p1)] [(.int p0)])) _
      refine XS.ifNo X0.here hx rfl (hb hby d5_1) rfl ((if0 _ _).trans (tlt hc1_2).2.2.2) ?_
      show Steps p.tables e below (s₁.setTop (mkF m 4 #[.val (.int p0), .val (.int p1)] [])) _
      refine XS.iloadN X0.here hx rfl (hb hby d5_4) rfl ?_
      show Steps p.tables e below (s₁.setTop (mkF m 5 #[.val (.int p0), .val (.int p1)] [(.int p0)])) _
      refine XS.iconst X0.here hx rfl (hb hby d5_5) ?_
      show Steps p.tables e below (s₁.setTop (mkF m 6 #[.val (.int p0), .val (.int p1)] [(.int (1 : Int32)), (.int p0)])) _
      refine XS.isub X0.here hx rfl (hb hby d5_6) rfl ?_
      exact k
    obtain ⟨fs, hrq, hrun, hended, hW, hsame⟩ := X0.leave (v := some (.int (p0 - (1 : Int32)))) (fun h => by rw [Bd.returns] at h; cases h)
    refine ⟨_, _, pre3 _ ?_, hrun, hended, _, _, rfl, ?_, ⟨_, rfl⟩, hW, hsame.mono (by decide) (by decide)⟩
    · show Steps p.tables e below (s₁.setTop (mkF m 7 #[.val (.int p0), .val (.int p1)] [(.int (p0 - (1 : Int32)))])) _
      exact retI X0 hx Bd.returns (hb hby d5_7) hrq
    · show Q5 Z p0 p1 h0 n0 _ s₁.heap _
      rw [e0]
      exact ⟨by rw [own_next, if_pos hc1_2], N0, rfl⟩
  · obtain ⟨_, _, ⟨T4, L4, k4, n4⟩, -, X4, ⟨Lc4, hQ4, l4, y4, z4⟩, st4⟩ := Jvm.LawKit.callS X0 hx (y := (⟨"com/example/vestline/vestline/io/Utf8ValidatorPendingPinLaw", "need", "(I)I"⟩ : MethodName)) hown (mvT hZ (hw _ (List.mem_of_getElem? (i := 25) rfl))) (mvT hZ (hw _ (List.mem_of_getElem? (i := 26) rfl))) (mvT hZ (hw _ (List.mem_of_getElem? (i := 23) rfl))) (mvT hZ (hw _ (List.mem_of_getElem? (i := 27) rfl))) (by decide) (backOf (W := 0) (rm6 l Z a0 hw [] p1 h0 n0 Z0 ) hZ (hw _ (List.mem_of_getElem? (i := 27) rfl)) (hw _ (List.mem_of_getElem? (i := 23) rfl)) (by decide) (by decide)) (g := (mkF m 9 #[.val (.int p0), .val (.int p1)] [(.int p1)])) rfl (by rw [hml]; rfl) (argsL := [(.int p1)]) (rest := []) (lenOf pd_0 rfl) rfl (by show 2 * 0 + _ ≤ _; exact Nat.le_of_eq rfl) (hb hby d5_9) (fun _ _ => ⟨rfl, e0, (by decide : 0 + 0 ≤ _), (by decide : 0 + 0 ≤ _)⟩)
    dsimp only [Pt.U, Pt.locs, Pt.cells, Pt.slots] at X4 l4 y4 z4 st4 hQ4
    subst l4 y4 z4
    obtain ⟨rfl, Nq4, hh4⟩ := hQ4
    have N4 := Fr.app N0 Nq4
    have e4 : T4.heap = h0 := hh4
    have pre5 : ∀ t, Steps p.tables e below (T4.setTop (mkF m 12 #[.val (.int p0), .val (.int p1)] [(.int (own_need p1))])) t → Steps p.tables e below (s₁.setTop (entryFrame m #[(.int p0), (.int p1)] 2)) t := fun t k => by
      refine pre1 t ?_
      show Steps p.tables e below (s₁.setTop (mkF m 1 #[.val (.int p0), .val (.int p1)] [(.int p0)])) _
      refine XS.ifYes X0.here hx rfl (pc0 := 1) (pc' := 8) rfl (hb hby d5_1) rfl ((if0 _ _).trans (flt hc1_2).2.2.2) (by decide) (by decide) ?_
      show Steps p.tables e below (s₁.setTop (mkF m 8 #[.val (.int p0), .val (.int p1)] [])) _
      refine XS.iloadN X0.here hx rfl (hb hby d5_8) rfl ?_
      show Steps p.tables e below (s₁.setTop (mkF m 9 #[.val (.int p0), .val (.int p1)] [(.int p1)])) _
      refine st4 _ ?_
      exact k
    obtain ⟨fs, hrq, hrun, hended, hW, hsame⟩ := X4.leave (v := some (.int (own_need p1))) (fun h => by rw [Bd.returns] at h; cases h)
    refine ⟨_, _, pre5 _ ?_, hrun, hended, _, _, rfl, ?_, ⟨_, rfl⟩, hW, hsame.mono (by decide) (by decide)⟩
    · show Steps p.tables e below (T4.setTop (mkF m 12 #[.val (.int p0), .val (.int p1)] [(.int (own_need p1))])) _
      exact retI X4 hx Bd.returns (hb hby d5_12) hrq
    · show Q5 Z p0 p1 h0 n0 _ T4.heap _
      rw [e4]
      exact ⟨by rw [own_next, if_neg hc1_2], N4, rfl⟩
theorem pd_1 : parseMethodDescriptor "(III)Z" = some ⟨[.int, .int, .int], some .boolean⟩ := by decide +kernel
theorem d4_0 : decode prog_59_method_3_code 0 = .ok (.iload_n 1, 1) := by decide +kernel
theorem d4_1 : decode prog_59_method_3_code 1 = .ok (.sipush 255, 3) := by decide +kernel
theorem d4_4 : decode prog_59_method_3_code 4 = .ok (.iand, 1) := by decide +kernel
theorem d4_5 : decode prog_59_method_3_code 5 = .ok (.istore_n 2, 1) := by decide +kernel
theorem d4_6 : decode prog_59_method_3_code 6 = .ok (.aload_n 0, 1) := by decide +kernel
theorem d4_7 : decode prog_59_method_3_code 7 = .ok (.getfield 7, 3) := by decide +kernel
theorem d4_10 : decode prog_59_method_3_code 10 = .ok (.ifCond .le 52, 3) := by decide +kernel
theorem d4_13 : decode prog_59_method_3_code 13 = .ok (.iload_n 2, 1) := by decide +kernel
theorem d4_14 : decode prog_59_method_3_code 14 = .ok (.aload_n 0, 1) := by decide +kernel
theorem d4_15 : decode prog_59_method_3_code 15 = .ok (.getfield 13, 3) := by decide +kernel
theorem d4_18 : decode prog_59_method_3_code 18 = .ok (.if_icmp .lt 15, 3) := by decide +kernel
theorem d4_21 : decode prog_59_method_3_code 21 = .ok (.iload_n 2, 1) := by decide +kernel
theorem d4_22 : decode prog_59_method_3_code 22 = .ok (.aload_n 0, 1) := by decide +kernel
theorem d4_23 : decode prog_59_method_3_code 23 = .ok (.getfield 16, 3) := by decide +kernel
theorem d4_26 : decode prog_59_method_3_code 26 = .ok (.if_icmp .gt 7, 3) := by decide +kernel
theorem d4_29 : decode prog_59_method_3_code 29 = .ok (.iconst 1, 1) := by decide +kernel
theorem d4_30 : decode prog_59_method_3_code 30 = .ok (.goto 4, 3) := by decide +kernel
theorem d4_33 : decode prog_59_method_3_code 33 = .ok (.iconst 0, 1) := by decide +kernel
theorem d4_34 : decode prog_59_method_3_code 34 = .ok (.istore_n 3, 1) := by decide +kernel
theorem d4_35 : decode prog_59_method_3_code 35 = .ok (.aload_n 0, 1) := by decide +kernel
theorem d4_36 : decode prog_59_method_3_code 36 = .ok (.dup, 1) := by decide +kernel
theorem d4_37 : decode prog_59_method_3_code 37 = .ok (.getfield 7, 3) := by decide +kernel
theorem d4_40 : decode prog_59_method_3_code 40 = .ok (.iconst 1, 1) := by decide +kernel
theorem d4_41 : decode prog_59_method_3_code 41 = .ok (.isub, 1) := by decide +kernel
theorem d4_42 : decode prog_59_method_3_code 42 = .ok (.putfield 7, 3) := by decide +kernel
theorem d4_45 : decode prog_59_method_3_code 45 = .ok (.aload_n 0, 1) := by decide +kernel
theorem d4_46 : decode prog_59_method_3_code 46 = .ok (.sipush 128, 3) := by decide +kernel
theorem d4_49 : decode prog_59_method_3_code 49 = .ok (.putfield 13, 3) := by decide +kernel
theorem d4_52 : decode prog_59_method_3_code 52 = .ok (.aload_n 0, 1) := by decide +kernel
theorem d4_53 : decode prog_59_method_3_code 53 = .ok (.sipush 191, 3) := by decide +kernel
theorem d4_56 : decode prog_59_method_3_code 56 = .ok (.putfield 16, 3) := by decide +kernel
theorem d4_59 : decode prog_59_method_3_code 59 = .ok (.goto 192, 3) := by decide +kernel
theorem d4_62 : decode prog_59_method_3_code 62 = .ok (.iload_n 2, 1) := by decide +kernel
theorem d4_63 : decode prog_59_method_3_code 63 = .ok (.sipush 128, 3) := by decide +kernel
theorem d4_66 : decode prog_59_method_3_code 66 = .ok (.if_icmp .ge 8, 3) := by decide +kernel
theorem d4_69 : decode prog_59_method_3_code 69 = .ok (.iconst 1, 1) := by decide +kernel
theorem d4_70 : decode prog_59_method_3_code 70 = .ok (.istore_n 3, 1) := by decide +kernel
theorem d4_71 : decode prog_59_method_3_code 71 = .ok (.goto 180, 3) := by decide +kernel
theorem d4_74 : decode prog_59_method_3_code 74 = .ok (.iload_n 2, 1) := by decide +kernel
theorem d4_75 : decode prog_59_method_3_code 75 = .ok (.sipush 194, 3) := by decide +kernel
theorem d4_78 : decode prog_59_method_3_code 78 = .ok (.if_icmp .lt 25, 3) := by decide +kernel
theorem d4_81 : decode prog_59_method_3_code 81 = .ok (.iload_n 2, 1) := by decide +kernel
theorem d4_82 : decode prog_59_method_3_code 82 = .ok (.sipush 223, 3) := by decide +kernel
theorem d4_85 : decode prog_59_method_3_code 85 = .ok (.if_icmp .gt 18, 3) := by decide +kernel
theorem d4_88 : decode prog_59_method_3_code 88 = .ok (.aload_n 0, 1) := by decide +kernel
theorem d4_89 : decode prog_59_method_3_code 89 = .ok (.iconst 1, 1) := by decide +kernel
theorem d4_90 : decode prog_59_method_3_code 90 = .ok (.sipush 128, 3) := by decide +kernel
theorem d4_93 : decode prog_59_method_3_code 93 = .ok (.sipush 191, 3) := by decide +kernel
theorem d4_96 : decode prog_59_method_3_code 96 = .ok (.invokevirtual 19, 3) := by decide +kernel
theorem d4_99 : decode prog_59_method_3_code 99 = .ok (.istore_n 3, 1) := by decide +kernel
theorem d4_100 : decode prog_59_method_3_code 100 = .ok (.goto 151, 3) := by decide +kernel
theorem d4_103 : decode prog_59_method_3_code 103 = .ok (.iload_n 2, 1) := by decide +kernel
theorem d4_104 : decode prog_59_method_3_code 104 = .ok (.sipush 224, 3) := by decide +kernel
theorem d4_107 : decode prog_59_method_3_code 107 = .ok (.if_icmp .ne 18, 3) := by decide +kernel
theorem d4_110 : decode prog_59_method_3_code 110 = .ok (.aload_n 0, 1) := by decide +kernel
theorem d4_111 : decode prog_59_method_3_code 111 = .ok (.iconst 2, 1) := by decide +kernel
theorem d4_112 : decode prog_59_method_3_code 112 = .ok (.sipush 160, 3) := by decide +kernel
theorem d4_115 : decode prog_59_method_3_code 115 = .ok (.sipush 191, 3) := by decide +kernel
theorem d4_118 : decode prog_59_method_3_code 118 = .ok (.invokevirtual 19, 3) := by decide +kernel
theorem d4_121 : decode prog_59_method_3_code 121 = .ok (.istore_n 3, 1) := by decide +kernel
theorem d4_122 : decode prog_59_method_3_code 122 = .ok (.goto 129, 3) := by decide +kernel
theorem d4_125 : decode prog_59_method_3_code 125 = .ok (.iload_n 2, 1) := by decide +kernel
theorem d4_126 : decode prog_59_method_3_code 126 = .ok (.sipush 237, 3) := by decide +kernel
theorem d4_129 : decode prog_59_method_3_code 129 = .ok (.if_icmp .ne 18, 3) := by decide +kernel
theorem d4_132 : decode prog_59_method_3_code 132 = .ok (.aload_n 0, 1) := by decide +kernel
theorem d4_133 : decode prog_59_method_3_code 133 = .ok (.iconst 2, 1) := by decide +kernel
theorem d4_134 : decode prog_59_method_3_code 134 = .ok (.sipush 128, 3) := by decide +kernel
theorem d4_137 : decode prog_59_method_3_code 137 = .ok (.sipush 159, 3) := by decide +kernel
theorem d4_140 : decode prog_59_method_3_code 140 = .ok (.invokevirtual 19, 3) := by decide +kernel
theorem d4_143 : decode prog_59_method_3_code 143 = .ok (.istore_n 3, 1) := by decide +kernel
theorem d4_144 : decode prog_59_method_3_code 144 = .ok (.goto 107, 3) := by decide +kernel
theorem d4_147 : decode prog_59_method_3_code 147 = .ok (.iload_n 2, 1) := by decide +kernel
theorem d4_148 : decode prog_59_method_3_code 148 = .ok (.sipush 225, 3) := by decide +kernel
theorem d4_151 : decode prog_59_method_3_code 151 = .ok (.if_icmp .lt 25, 3) := by decide +kernel
theorem d4_154 : decode prog_59_method_3_code 154 = .ok (.iload_n 2, 1) := by decide +kernel
theorem d4_155 : decode prog_59_method_3_code 155 = .ok (.sipush 239, 3) := by decide +kernel
theorem d4_158 : decode prog_59_method_3_code 158 = .ok (.if_icmp .gt 18, 3) := by decide +kernel
theorem d4_161 : decode prog_59_method_3_code 161 = .ok (.aload_n 0, 1) := by decide +kernel
theorem d4_162 : decode prog_59_method_3_code 162 = .ok (.iconst 2, 1) := by decide +kernel
theorem d4_163 : decode prog_59_method_3_code 163 = .ok (.sipush 128, 3) := by decide +kernel
theorem d4_166 : decode prog_59_method_3_code 166 = .ok (.sipush 191, 3) := by decide +kernel
theorem d4_169 : decode prog_59_method_3_code 169 = .ok (.invokevirtual 19, 3) := by decide +kernel
theorem d4_172 : decode prog_59_method_3_code 172 = .ok (.istore_n 3, 1) := by decide +kernel
theorem d4_173 : decode prog_59_method_3_code 173 = .ok (.goto 78, 3) := by decide +kernel
theorem d4_176 : decode prog_59_method_3_code 176 = .ok (.iload_n 2, 1) := by decide +kernel
theorem d4_177 : decode prog_59_method_3_code 177 = .ok (.sipush 240, 3) := by decide +kernel
theorem d4_180 : decode prog_59_method_3_code 180 = .ok (.if_icmp .ne 18, 3) := by decide +kernel
theorem d4_183 : decode prog_59_method_3_code 183 = .ok (.aload_n 0, 1) := by decide +kernel
theorem d4_184 : decode prog_59_method_3_code 184 = .ok (.iconst 3, 1) := by decide +kernel
theorem d4_185 : decode prog_59_method_3_code 185 = .ok (.sipush 144, 3) := by decide +kernel
theorem d4_188 : decode prog_59_method_3_code 188 = .ok (.sipush 191, 3) := by decide +kernel
theorem d4_191 : decode prog_59_method_3_code 191 = .ok (.invokevirtual 19, 3) := by decide +kernel
theorem d4_194 : decode prog_59_method_3_code 194 = .ok (.istore_n 3, 1) := by decide +kernel
theorem d4_195 : decode prog_59_method_3_code 195 = .ok (.goto 56, 3) := by decide +kernel
theorem d4_198 : decode prog_59_method_3_code 198 = .ok (.iload_n 2, 1) := by decide +kernel
theorem d4_199 : decode prog_59_method_3_code 199 = .ok (.sipush 244, 3) := by decide +kernel
theorem d4_202 : decode prog_59_method_3_code 202 = .ok (.if_icmp .ne 18, 3) := by decide +kernel
theorem d4_205 : decode prog_59_method_3_code 205 = .ok (.aload_n 0, 1) := by decide +kernel
theorem d4_206 : decode prog_59_method_3_code 206 = .ok (.iconst 3, 1) := by decide +kernel
theorem d4_207 : decode prog_59_method_3_code 207 = .ok (.sipush 128, 3) := by decide +kernel
theorem d4_210 : decode prog_59_method_3_code 210 = .ok (.sipush 143, 3) := by decide +kernel
theorem d4_213 : decode prog_59_method_3_code 213 = .ok (.invokevirtual 19, 3) := by decide +kernel
theorem d4_216 : decode prog_59_method_3_code 216 = .ok (.istore_n 3, 1) := by decide +kernel
theorem d4_217 : decode prog_59_method_3_code 217 = .ok (.goto 34, 3) := by decide +kernel
theorem d4_220 : decode prog_59_method_3_code 220 = .ok (.iload_n 2, 1) := by decide +kernel
theorem d4_221 : decode prog_59_method_3_code 221 = .ok (.sipush 241, 3) := by decide +kernel
theorem d4_224 : decode prog_59_method_3_code 224 = .ok (.if_icmp .lt 25, 3) := by decide +kernel
theorem d4_227 : decode prog_59_method_3_code 227 = .ok (.iload_n 2, 1) := by decide +kernel
theorem d4_228 : decode prog_59_method_3_code 228 = .ok (.sipush 243, 3) := by decide +kernel
theorem d4_231 : decode prog_59_method_3_code 231 = .ok (.if_icmp .gt 18, 3) := by decide +kernel
theorem d4_234 : decode prog_59_method_3_code 234 = .ok (.aload_n 0, 1) := by decide +kernel
theorem d4_235 : decode prog_59_method_3_code 235 = .ok (.iconst 3, 1) := by decide +kernel
theorem d4_236 : decode prog_59_method_3_code 236 = .ok (.sipush 128, 3) := by decide +kernel
theorem d4_239 : decode prog_59_method_3_code 239 = .ok (.sipush 191, 3) := by decide +kernel
theorem d4_242 : decode prog_59_method_3_code 242 = .ok (.invokevirtual 19, 3) := by decide +kernel
theorem d4_245 : decode prog_59_method_3_code 245 = .ok (.istore_n 3, 1) := by decide +kernel
theorem d4_246 : decode prog_59_method_3_code 246 = .ok (.goto 5, 3) := by decide +kernel
theorem d4_249 : decode prog_59_method_3_code 249 = .ok (.iconst 0, 1) := by decide +kernel
theorem d4_250 : decode prog_59_method_3_code 250 = .ok (.istore_n 3, 1) := by decide +kernel
theorem d4_251 : decode prog_59_method_3_code 251 = .ok (.iload_n 3, 1) := by decide +kernel
theorem d4_252 : decode prog_59_method_3_code 252 = .ok (.ireturn, 1) := by decide +kernel
theorem ef_rm4 (m : MethodId) (x0 : Addr) (x1 : Int32) : entryFrame m #[(.ref x0), (.int x1)] 4 = mkF m 0 #[.val (.ref x0), .val (.int x1), .unset, .unset] [] := by first | (simp [entryFrame, mkF, argsToLocals, Value.category]; done) | rfl
def Q4 (Z : State) (ob : Addr) (p1 : Int32) (P lo hi : Int32) (h0 : Heap) (n0 : Nat) (v : Option Value) (h : Heap) (L : List Loc) : Prop := (∃ r : Int32, v = some (.int r)) ∧ Fr n0 L ∧ Keep h0 h [ob] ∧ Exa Z h ob "com/example/vestline/vestline/io/Utf8Validator" ∧ Fld Z h ob "com/example/vestline/vestline/io/Utf8Validator" "pending" "I" (.int (own_next P (p1 &&& (255 : Int32)))) ∧ ∃ lo' hi' : Int32, Fld Z h ob "com/example/vestline/vestline/io/Utf8Validator" "lowest" "I" (.int lo') ∧ Fld Z h ob "com/example/vestline/vestline/io/Utf8Validator" "highest" "I" (.int hi')
set_option maxRecDepth 65536 in
set_option maxHeartbeats 40000000 in
theorem rm4 (l : Launch) (Z : State) (a0 : Array Value) (hw : ∀ d ∈ tables_1, d.before a0 Z = true) (ws : List Jvm.Cond) (ob : Addr) (p1 : Int32) (P lo hi : Int32) (h0 : Heap) (n0 : Nat) (Z0 : n0 ≤ h0.size) (E_ob : Exa Z h0 ob "com/example/vestline/vestline/io/Utf8Validator") (F_pending : Fld Z h0 ob "com/example/vestline/vestline/io/Utf8Validator" "pending" "I" (.int P)) (F_lowest : Fld Z h0 ob "com/example/vestline/vestline/io/Utf8Validator" "lowest" "I" (.int lo)) (F_highest : Fld Z h0 ob "com/example/vestline/vestline/io/Utf8Validator" "highest" "I" (.int hi)) (g_ob : n0 ≤ ob) (hPz : ¬ ((0 : Int32) < P) → P = 0) :
    MetFree l (⟨"com/example/vestline/vestline/io/Utf8Validator", "accept", "(B)Z"⟩ : MethodName) (head1 (Jvm.Cond.code (⟨"com/example/vestline/vestline/io/Utf8Validator", "accept", "(B)Z"⟩ : MethodName) prog_59_method_3_code 4 (some .boolean) :: ws) ({ frames := 1, cells := 0, slots := 0, locals := 15 } : Room)) (fun a U => a = #[(.ref ob), (.int p1)] ∧ Z.Warmed39 U.vm ∧ U.heap = h0) (fun _ _ _ _ _ => True) (fun _ U o U' => ∃ v L, o = .returned v ∧ Q4 Z ob p1 P lo hi h0 n0 v U'.heap L ∧ FrameEnd U o U' L ({ frames := 1, cells := 0, slots := 0, locals := 15 } : Room).cells ({ frames := 1, cells := 0, slots := 0, locals := 15 } : Room).slots) := by
  refine MetFree.of_bodySF (plainFor_of_name pn_0) hisR ?_
  intro p e s0 m args below meth c s₁ Bd hml0 hP hK
  obtain ⟨rfl, hZ, hh⟩ := hP
  have hx := Bd.exec
  have hby := Bd.bytes
  have hml : c.maxLocals = 4 := hml0
  have hown : s0.vm.findClass "com/example/vestline/vestline/io/Utf8Validator" = some m.cls := findClass_of_methodNamed Bd.named
  have hnm := (name_of_methodNamed Bd.named Bd.method).1
  have X0 : Stand p l e ({ frames := 1, cells := 0, slots := 0, locals := 15 } : Room) s0 m #[(.ref ob), (.int p1)] below meth c s₁ [] 0 0 := Stand.of_body Bd
  have e0 : s₁.heap = h0 := by rw [← hh, Bd.state]; rfl
  have N0 := Fr.nil n0
  have pre0 : ∀ t, Steps p.tables e below (s₁.setTop (mkF m 0 #[.val (.ref ob), .val (.int p1), .unset, .unset] [])) t → Steps p.tables e below (s₁.setTop (entryFrame m #[(.ref ob), (.int p1)] 4)) t := fun t k => castTop (ef_rm4 m ob p1) k
  obtain ⟨T1, X1, e1, st1⟩ := getF X0 hx hZ hown (host := "") (Or.inl (hw _ (List.mem_of_getElem? (i := 14) rfl))) Via.refl e0 F_pending (g := (mkF m 7 #[.val (.ref ob), .val (.int p1), .val (.int (p1 &&& (255 : Int32))), .unset] [(.ref ob)])) rfl rfl (hb hby d4_7)
  have pre2 : ∀ t, Steps p.tables e below (T1.setTop (mkF m 10 #[.val (.ref ob), .val (.int p1), .val (.int (p1 &&& (255 : Int32))), .unset] [(.int P)])) t → Steps p.tables e below (s₁.setTop (entryFrame m #[(.ref ob), (.int p1)] 4)) t := fun t k => by
    refine pre0 t ?_
    show Steps p.tables e below (s₁.setTop (mkF m 0 #[.val (.ref ob), .val (.int p1), .unset, .unset] [])) _
    refine XS.iloadN X0.here hx rfl (hb hby d4_0) rfl ?_
    show Steps p.tables e below (s₁.setTop (mkF m 1 #[.val (.ref ob), .val (.int p1), .unset, .unset] [(.int p1)])) _
    refine XS.sipush X0.here hx rfl (hb hby d4_1) ?_
    show Steps p.tables e below (s₁.setTop (mkF m 4 #[.val (.ref ob), .val (.int p1), .unset, .unset] [(.int (255 : Int32)), (.int p1)])) _
    refine XS.iand X0.here hx rfl (hb hby d4_4) rfl ?_
    show Steps p.tables e below (s₁.setTop (mkF m 5 #[.val (.ref ob), .val (.int p1), .unset, .unset] [(.int (p1 &&& (255 : Int32)))])) _
    refine XS.istoreN X0.here hx rfl (hb hby d4_5) rfl (l' := #[.val (.ref ob), .val (.int p1), .val (.int (p1 &&& (255 : Int32))), .unset]) rfl ?_
    show Steps p.tables e below (s₁.setTop (mkF m 6 #[.val (.ref ob), .val (.int p1), .val (.int (p1 &&& (255 : Int32))), .unset] [])) _
    refine XS.aloadN X0.here hx rfl (hb hby d4_6) rfl rfl ?_
    show Steps p.tables e below (s₁.setTop (mkF m 7 #[.val (.ref ob), .val (.int p1), .val (.int (p1 &&& (255 : Int32))), .unset] [(.ref ob)])) _
    refine st1 _ ?_
    exact k
  by_cases hc10_3 : (0 : Int32) < P
  · obtain ⟨T4, X4, e4, st4⟩ := getF X1 hx hZ hown (host := "") (Or.inl (hw _ (List.mem_of_getElem? (i := 32) rfl))) Via.refl e1 F_lowest (g := (mkF m 15 #[.val (.ref ob), .val (.int p1), .val (.int (p1 &&& (255 : Int32))), .unset] [(.ref ob), (.int (p1 &&& (255 : Int32)))])) rfl rfl (hb hby d4_15)
    have pre5 : ∀ t, Steps p.tables e below (T4.setTop (mkF m 18 #[.val (.ref ob), .val (.int p1), .val (.int (p1 &&& (255 : Int32))), .unset] [(.int lo), (.int (p1 &&& (255 : Int32)))])) t → Steps p.tables e below (s₁.setTop (entryFrame m #[(.ref ob), (.int p1)] 4)) t := fun t k => by
      refine pre2 t ?_
      show Steps p.tables e below (T1.setTop (mkF m 10 #[.val (.ref ob), .val (.int p1), .val (.int (p1 &&& (255 : Int32))), .unset] [(.int P)])) _
      refine XS.ifNo X1.here hx rfl (hb hby d4_10) rfl ((if0 _ _).trans (tlt hc10_3).2.2.2) ?_
      show Steps p.tables e below (T1.setTop (mkF m 13 #[.val (.ref ob), .val (.int p1), .val (.int (p1 &&& (255 : Int32))), .unset] [])) _
      refine XS.iloadN X1.here hx rfl (hb hby d4_13) rfl ?_
      show Steps p.tables e below (T1.setTop (mkF m 14 #[.val (.ref ob), .val (.int p1), .val (.int (p1 &&& (255 : Int32))), .unset] [(.int (p1 &&& (255 : Int32)))])) _
      refine XS.aloadN X1.here hx rfl (hb hby d4_14) rfl rfl ?_
      show Steps p.tables e below (T1.setTop (mkF m 15 #[.val (.ref ob), .val (.int p1), .val (.int (p1 &&& (255 : Int32))), .unset] [(.ref ob), (.int (p1 &&& (255 : Int32)))])) _
      refine st4 _ ?_
      exact k
    by_cases hc18_6 : (p1 &&& (255 : Int32)) < lo
    · obtain ⟨T7, X7, e7, st7⟩ := getF X4 hx hZ hown (host := "") (Or.inl (hw _ (List.mem_of_getElem? (i := 14) rfl))) Via.refl e4 F_pending (g := (mkF m 37 #[.val (.ref ob), .val (.int p1), .val (.int (p1 &&& (255 : Int32))), .val (.int (0 : Int32))] [(.ref ob), (.ref ob)])) rfl rfl (hb hby d4_37)
      obtain ⟨T8, h8, X8, e8, W8, st8⟩ := putF X7 hx hZ hown (host := "") (Or.inl (hw _ (List.mem_of_getElem? (i := 14) rfl))) Via.refl e7 F_pending E_ob (Or.inl (hw _ (List.mem_of_getElem? (i := 15) rfl))) (hw _ (List.mem_of_getElem? (i := 1) rfl)) (ty := .int) (by decide) rfl rfl (g := (mkF m 42 #[.val (.ref ob), .val (.int p1), .val (.int (p1 &&& (255 : Int32))), .val (.int (0 : Int32))] [(.int (P - (1 : Int32))), (.ref ob)])) rfl rfl (hb hby d4_42)
      have Fw8 : Fld Z h8 ob "com/example/vestline/vestline/io/Utf8Validator" "pending" "I" (.int (P - (1 : Int32))) := F_pending.same W8
      have Z9 : n0 ≤ h8.size := Nat.le_trans Z0 (Keep.of_wr W8).1
      have K8 : Keep h0 h8 [ob] := (Keep.refl h0 [ob]).wr W8 (Or.inl (List.mem_of_getElem? (i := 0) rfl))
      have N8 := Fr.snoc X8 N0 g_ob
      have c10 : Exa Z h8 ob "com/example/vestline/vestline/io/Utf8Validator" := (E_ob.wr W8)
      have c11 : Fld Z h8 ob "com/example/vestline/vestline/io/Utf8Validator" "lowest" "I" (.int lo) := (F_lowest.other W8 (Or.inr (slot_ne (a0 := a0) (Or.inl (hw _ (List.mem_of_getElem? (i := 33) rfl))) (Or.inl (hw _ (List.mem_of_getElem? (i := 15) rfl))) (by decide) (t := .int) (t' := .int) (by decide) (by decide))))
      obtain ⟨T12, h12, X12, e12, W12, st12⟩ := putF X8 hx hZ hown (host := "") (Or.inl (hw _ (List.mem_of_getElem? (i := 32) rfl))) Via.refl e8 c11 c10 (Or.inl (hw _ (List.mem_of_getElem? (i := 33) rfl))) (hw _ (List.mem_of_getElem? (i := 1) rfl)) (ty := .int) (by decide) rfl rfl (g := (mkF m 49 #[.val (.ref ob), .val (.int p1), .val (.int (p1 &&& (255 : Int32))), .val (.int (0 : Int32))] [(.int (128 : Int32)), (.ref ob)])) rfl rfl (hb hby d4_49)
      have Fw12 : Fld Z h12 ob "com/example/vestline/vestline/io/Utf8Validator" "lowest" "I" (.int (128 : Int32)) := c11.same W12
      have Z13 : n0 ≤ h12.size := Nat.le_trans Z9 (Keep.of_wr W12).1
      have K12 : Keep h0 h12 [ob] := K8.wr W12 (Or.inl (List.mem_of_getElem? (i := 0) rfl))
      have N12 := Fr.snoc X12 N8 g_ob
      have c14 : Exa Z h12 ob "com/example/vestline/vestline/io/Utf8Validator" := (c10.wr W12)
      have c15 : Fld Z h12 ob "com/example/vestline/vestline/io/Utf8Validator" "highest" "I" (.int hi) := ((F_highest.other W8 (Or.inr (slot_ne (a0 := a0) (Or.inl (hw _ (List.mem_of_getElem? (i := 35) rfl))) (Or.inl (hw _ (List.mem_of_getElem? (i := 15) rfl))) (by decide) (t := .int) (t' := .int) (by decide) (by decide)))).other W12 (Or.inr (slot_ne (a0 := a0) (Or.inl (hw _ (List.mem_of_getElem? (i := 35) rfl))) (Or.inl (hw _ (List.mem_of_getElem? (i := 33) rfl))) (by decide) (t := .int) (t' := .int) (by decide) (by decide))))
      obtain ⟨T16, h16, X16, e16, W16, st16⟩ := putF X12 hx hZ hown (host := "") (Or.inl (hw _ (List.mem_of_getElem? (i := 34) rfl))) Via.refl e12 c15 c14 (Or.inl (hw _ (List.mem_of_getElem? (i := 35) rfl))) (hw _ (List.mem_of_getElem? (i := 1) rfl)) (ty := .int) (by decide) rfl rfl (g := (mkF m 56 #[.val (.ref ob), .val (.int p1), .val (.int (p1 &&& (255 : Int32))), .val (.int (0 : Int32))] [(.int (191 : Int32)), (.ref ob)])) rfl rfl (hb hby d4_56)
      have Fw16 : Fld Z h16 ob "com/example/vestline/vestline/io/Utf8Validator" "highest" "I" (.int (191 : Int32)) := c15.same W16
      have Z17 : n0 ≤ h16.size := Nat.le_trans Z13 (Keep.of_wr W16).1
      have K16 : Keep h0 h16 [ob] := K12.wr W16 (Or.inl (List.mem_of_getElem? (i := 0) rfl))
      have N16 := Fr.snoc X16 N12 g_ob
      have pre18 : ∀ t, Steps p.tables e below (T16.setTop (mkF m 252 #[.val (.ref ob), .val (.int p1), .val (.int (p1 &&& (255 : Int32))), .val (.int (0 : Int32))] [(.int (0 : Int32))])) t → Steps p.tables e below (s₁.setTop (entryFrame m #[(.ref ob), (.int p1)] 4)) t := fun t k => by
        refine pre5 t ?_
        show Steps p.tables e below (T4.setTop (mkF m 18 #[.val (.ref ob), .val (.int p1), .val (.int (p1 &&& (255 : Int32))), .unset] [(.int lo), (.int (p1 &&& (255 : Int32)))])) _
        refine XS.icmpYes X4.here hx rfl (pc0 := 18) (pc' := 33) rfl (hb hby d4_18) rfl (tlt hc18_6).1 (by decide) (by decide) ?_
        show Steps p.tables e below (T4.setTop (mkF m 33 #[.val (.ref ob), .val (.int p1), .val (.int (p1 &&& (255 : Int32))), .unset] [])) _
        refine XS.iconst X4.here hx rfl (hb hby d4_33) ?_
        show Steps p.tables e below (T4.setTop (mkF m 34 #[.val (.ref ob), .val (.int p1), .val (.int (p1 &&& (255 : Int32))), .unset] [(.int (0 : Int32))])) _
        refine XS.istoreN X4.here hx rfl (hb hby d4_34) rfl (l' := #[.val (.ref ob), .val (.int p1), .val (.int (p1 &&& (255 : Int32))), .val (.int (0 : Int32))]) rfl ?_
        show Steps p.tables e below (T4.setTop (mkF m 35 #[.val (.ref ob), .val (.int p1), .val (.int (p1 &&& (255 : Int32))), .val (.int (0 : Int32))] [])) _
        refine XS.aloadN X4.here hx rfl (hb hby d4_35) rfl rfl ?_
        show Steps p.tables e below (T4.setTop (mkF m 36 #[.val (.ref ob), .val (.int p1), .val (.int (p1 &&& (255 : Int32))), .val (.int (0 : Int32))] [(.ref ob)])) _
        refine XS.dup X4.here hx rfl (hb hby d4_36) rfl rfl ?_
        show Steps p.tables e below (T4.setTop (mkF m 37 #[.val (.ref ob), .val (.int p1), .val (.int (p1 &&& (255 : Int32))), .val (.int (0 : Int32))] [(.ref ob), (.ref ob)])) _
        refine st7 _ ?_
        show Steps p.tables e below (T7.setTop (mkF m 40 #[.val (.ref ob), .val (.int p1), .val (.int (p1 &&& (255 : Int32))), .val (.int (0 : Int32))] [(.int P), (.ref ob)])) _
        refine XS.iconst X7.here hx rfl (hb hby d4_40) ?_
        show Steps p.tables e below (T7.setTop (mkF m 41 #[.val (.ref ob), .val (.int p1), .val (.int (p1 &&& (255 : Int32))), .val (.int (0 : Int32))] [(.int (1 : Int32)), (.int P), (.ref ob)])) _
        refine XS.isub X7.here hx rfl (hb hby d4_41) rfl ?_
        show Steps p.tables e below (T7.setTop (mkF m 42 #[.val (.ref ob), .val (.int p1), .val (.int (p1 &&& (255 : Int32))), .val (.int (0 : Int32))] [(.int (P - (1 : Int32))), (.ref ob)])) _
        refine st8 _ ?_
        show Steps p.tables e below (T8.setTop (mkF m 45 #[.val (.ref ob), .val (.int p1), .val (.int (p1 &&& (255 : Int32))), .val (.int (0 : Int32))] [])) _
        refine XS.aloadN X8.here hx rfl (hb hby d4_45) rfl rfl ?_
        show Steps p.tables e below (T8.setTop (mkF m 46 #[.val (.ref ob), .val (.int p1), .val (.int (p1 &&& (255 : Int32))), .val (.int (0 : Int32))] [(.ref ob)])) _
        refine XS.sipush X8.here hx rfl (hb hby d4_46) ?_
        show Steps p.tables e below (T8.setTop (mkF m 49 #[.val (.ref ob), .val (.int p1), .val (.int (p1 &&& (255 : Int32))), .val (.int (0 : Int32))] [(.int (128 : Int32)), (.ref ob)])) _
        refine st12 _ ?_
        show Steps p.tables e below (T12.setTop (mkF m 52 #[.val (.ref ob), .val (.int p1), .val (.int (p1 &&& (255 : Int32))), .val (.int (0 : Int32))] [])) _
        refine XS.aloadN X12.here hx rfl (hb hby d4_52) rfl rfl ?_
        show Steps p.tables e below (T12.setTop (mkF m 53 #[.val (.ref ob), .val (.int p1), .val (.int (p1 &&& (255 : Int32))), .val (.int (0 : Int32))] [(.ref ob)])) _
        refine XS.sipush X12.here hx rfl (hb hby d4_53) ?_
        show Steps p.tables e below (T12.setTop (mkF m 56 #[.val (.ref ob), .val (.int p1), .val (.int (p1 &&& (255 : Int32))), .val (.int (0 : Int32))] [(.int (191 : Int32)), (.ref ob)])) _
        refine st16 _ ?_
        show Steps p.tables e below (T16.setTop (mkF m 59 #[.val (.ref ob), .val (.int p1), .val (.int (p1 &&& (255 : Int32))), .val (.int (0 : Int32))] [])) _
        refine XS.goto X16.here hx rfl (pc0 := 59) (pc' := 251) rfl (hb hby d4_59) (by decide) (by decide) ?_
        show Steps p.tables e below (T16.setTop (mkF m 251 #[.val (.ref ob), .val (.int p1), .val (.int (p1 &&& (255 : Int32))), .val (.int (0 : Int32))] [])) _
        refine XS.iloadN X16.here hx rfl (hb hby d4_251) rfl ?_
        exact k
      obtain ⟨fs, hrq, hrun, hended, hW, hsame⟩ := X16.leave (v := some (.int (0 : Int32))) (fun h => by rw [Bd.returns] at h; cases h)
      refine ⟨_, _, pre18 _ ?_, hrun, hended, _, _, rfl, ?_, ⟨_, rfl⟩, hW, hsame.mono (by decide) (by decide)⟩
      · show Steps p.tables e below (T16.setTop (mkF m 252 #[.val (.ref ob), .val (.int p1), .val (.int (p1 &&& (255 : Int32))), .val (.int (0 : Int32))] [(.int (0 : Int32))])) _
        exact retN X16 hx (t := .boolean) Bd.returns (by simp) (hb hby d4_252) hrq
      · show Q4 Z ob p1 P lo hi h0 n0 _ T16.heap _
        rw [e16]
        have hv : own_next P (p1 &&& (255 : Int32)) = (P - (1 : Int32)) := (if_pos hc10_3 : own_next P (p1 &&& (255 : Int32)) = _)
        have c19 : Fld Z h16 ob "com/example/vestline/vestline/io/Utf8Validator" "pending" "I" (.int (P - (1 : Int32))) := ((Fw8.other W12 (Or.inr (slot_ne (a0 := a0) (Or.inl (hw _ (List.mem_of_getElem? (i := 15) rfl))) (Or.inl (hw _ (List.mem_of_getElem? (i := 33) rfl))) (by decide) (t := .int) (t' := .int) (by decide) (by decide)))).other W16 (Or.inr (slot_ne (a0 := a0) (Or.inl (hw _ (List.mem_of_getElem? (i := 15) rfl))) (Or.inl (hw _ (List.mem_of_getElem? (i := 35) rfl))) (by decide) (t := .int) (t' := .int) (by decide) (by decide))))
        have c20 : Fld Z h16 ob "com/example/vestline/vestline/io/Utf8Validator" "lowest" "I" (.int (128 : Int32)) := (Fw12.other W16 (Or.inr (slot_ne (a0 := a0) (Or.inl (hw _ (List.mem_of_getElem? (i := 33) rfl))) (Or.inl (hw _ (List.mem_of_getElem? (i := 35) rfl))) (by decide) (t := .int) (t' := .int) (by decide) (by decide))))
        have c21 : Exa Z h16 ob "com/example/vestline/vestline/io/Utf8Validator" := (c14.wr W16)
        exact ⟨⟨_, rfl⟩, N16, K16, c21, by rw [hv]; exact c19, _, _, c20, Fw16⟩
    · obtain ⟨T22, X22, e22, st22⟩ := getF X4 hx hZ hown (host := "") (Or.inl (hw _ (List.mem_of_getElem? (i := 34) rfl))) Via.refl e4 F_highest (g := (mkF m 23 #[.val (.ref ob), .val (.int p1), .val (.int (p1 &&& (255 : Int32))), .unset] [(.ref ob), (.int (p1 &&& (255 : Int32)))])) rfl rfl (hb hby d4_23)
      have pre23 : ∀ t, Steps p.tables e below (T22.setTop (mkF m 26 #[.val (.ref ob), .val (.int p1), .val (.int (p1 &&& (255 : Int32))), .unset] [(.int hi), (.int (p1 &&& (255 : Int32)))])) t → Steps p.tables e below (s₁.setTop (entryFrame m #[(.ref ob), (.int p1)] 4)) t := fun t k => by
        refine pre5 t ?_
        show Steps p.tables e below (T4.setTop (mkF m 18 #[.val (.ref ob), .val (.int p1), .val (.int (p1 &&& (255 : Int32))), .unset] [(.int lo), (.int (p1 &&& (255 : Int32)))])) _
        refine XS.icmpNo X4.here hx rfl (hb hby d4_18) rfl (flt hc18_6).1 ?_
        show Steps p.tables e below (T4.setTop (mkF m 21 #[.val (.ref ob), .val (.int p1), .val (.int (p1 &&& (255 : Int32))), .unset] [])) _
        refine XS.iloadN X4.here hx rfl (hb hby d4_21) rfl ?_
        show Steps p.tables e below (T4.setTop (mkF m 22 #[.val (.ref ob), .val (.int p1), .val (.int (p1 &&& (255 : Int32))), .unset] [(.int (p1 &&& (255 : Int32)))])) _
        refine XS.aloadN X4.here hx rfl (hb hby d4_22) rfl rfl ?_
        show Steps p.tables e below (T4.setTop (mkF m 23 #[.val (.ref ob), .val (.int p1), .val (.int (p1 &&& (255 : Int32))), .unset] [(.ref ob), (.int (p1 &&& (255 : Int32)))])) _
        refine st22 _ ?_
        exact k
      by_cases hc26_24 : hi < (p1 &&& (255 : Int32))
      · obtain ⟨T25, X25, e25, st25⟩ := getF X22 hx hZ hown (host := "") (Or.inl (hw _ (List.mem_of_getElem? (i := 14) rfl))) Via.refl e22 F_pending (g := (mkF m 37 #[.val (.ref ob), .val (.int p1), .val (.int (p1 &&& (255 : Int32))), .val (.int (0 : Int32))] [(.ref ob), (.ref ob)])) rfl rfl (hb hby d4_37)
        obtain ⟨T26, h26, X26, e26, W26, st26⟩ := putF X25 hx hZ hown (host := "") (Or.inl (hw _ (List.mem_of_getElem? (i := 14) rfl))) Via.refl e25 F_pending E_ob (Or.inl (hw _ (List.mem_of_getElem? (i := 15) rfl))) (hw _ (List.mem_of_getElem? (i := 1) rfl)) (ty := .int) (by decide) rfl rfl (g := (mkF m 42 #[.val (.ref ob), .val (.int p1), .val (.int (p1 &&& (255 : Int32))), .val (.int (0 : Int32))] [(.int (P - (1 : Int32))), (.ref ob)])) rfl rfl (hb hby d4_42)
        have Fw26 : Fld Z h26 ob "com/example/vestline/vestline/io/Utf8Validator" "pending" "I" (.int (P - (1 : Int32))) := F_pending.same W26
        have Z27 : n0 ≤ h26.size := Nat.le_trans Z0 (Keep.of_wr W26).1
        have K26 : Keep h0 h26 [ob] := (Keep.refl h0 [ob]).wr W26 (Or.inl (List.mem_of_getElem? (i := 0) rfl))
        have N26 := Fr.snoc X26 N0 g_ob
        have c28 : Exa Z h26 ob "com/example/vestline/vestline/io/Utf8Validator" := (E_ob.wr W26)
        have c29 : Fld Z h26 ob "com/example/vestline/vestline/io/Utf8Validator" "lowest" "I" (.int lo) := (F_lowest.other W26 (Or.inr (slot_ne (a0 := a0) (Or.inl (hw _ (List.mem_of_getElem? (i := 33) rfl))) (Or.inl (hw _ (List.mem_of_getElem? (i := 15) rfl))) (by decide) (t := .int) (t' := .int) (by decide) (by decide))))
        obtain ⟨T30, h30, X30, e30, W30, st30⟩ := putF X26 hx hZ hown (host := "") (Or.inl (hw _ (List.mem_of_getElem? (i := 32) rfl))) Via.refl e26 c29 c28 (Or.inl (hw _ (List.mem_of_getElem? (i := 33) rfl))) (hw _ (List.mem_of_getElem? (i := 1) rfl)) (ty := .int) (by decide) rfl rfl (g := (mkF m 49 #[.val (.ref ob), .val (.int p1), .val (.int (p1 &&& (255 : Int32))), .val (.int (0 : Int32))] [(.int (128 : Int32)), (.ref ob)])) rfl rfl (hb hby d4_49)
        have Fw30 : Fld Z h30 ob "com/example/vestline/vestline/io/Utf8Validator" "lowest" "I" (.int (128 : Int32)) := c29.same W30
        have Z31 : n0 ≤ h30.size := Nat.le_trans Z27 (Keep.of_wr W30).1
        have K30 : Keep h0 h30 [ob] := K26.wr W30 (Or.inl (List.mem_of_getElem? (i := 0) rfl))
        have N30 := Fr.snoc X30 N26 g_ob
        have c32 : Exa Z h30 ob "com/example/vestline/vestline/io/Utf8Validator" := (c28.wr W30)
        have c33 : Fld Z h30 ob "com/example/vestline/vestline/io/Utf8Validator" "highest" "I" (.int hi) := ((F_highest.other W26 (Or.inr (slot_ne (a0 := a0) (Or.inl (hw _ (List.mem_of_getElem? (i := 35) rfl))) (Or.inl (hw _ (List.mem_of_getElem? (i := 15) rfl))) (by decide) (t := .int) (t' := .int) (by decide) (by decide)))).other W30 (Or.inr (slot_ne (a0 := a0) (Or.inl (hw _ (List.mem_of_getElem? (i := 35) rfl))) (Or.inl (hw _ (List.mem_of_getElem? (i := 33) rfl))) (by decide) (t := .int) (t' := .int) (by decide) (by decide))))
        obtain ⟨T34, h34, X34, e34, W34, st34⟩ := putF X30 hx hZ hown (host := "") (Or.inl (hw _ (List.mem_of_getElem? (i := 34) rfl))) Via.refl e30 c33 c32 (Or.inl (hw _ (List.mem_of_getElem? (i := 35) rfl))) (hw _ (List.mem_of_getElem? (i := 1) rfl)) (ty := .int) (by decide) rfl rfl (g := (mkF m 56 #[.val (.ref ob), .val (.int p1), .val (.int (p1 &&& (255 : Int32))), .val (.int (0 : Int32))] [(.int (191 : Int32)), (.ref ob)])) rfl rfl (hb hby d4_56)
        have Fw34 : Fld Z h34 ob "com/example/vestline/vestline/io/Utf8Validator" "highest" "I" (.int (191 : Int32)) := c33.same W34
        have Z35 : n0 ≤ h34.size := Nat.le_trans Z31 (Keep.of_wr W34).1
        have K34 : Keep h0 h34 [ob] := K30.wr W34 (Or.inl (List.mem_of_getElem? (i := 0) rfl))
        have N34 := Fr.snoc X34 N30 g_ob
        have pre36 : ∀ t, Steps p.tables e below (T34.setTop (mkF m 252 #[.val (.ref ob), .val (.int p1), .val (.int (p1 &&& (255 : Int32))), .val (.int (0 : Int32))] [(.int (0 : Int32))])) t → Steps p.tables e below (s₁.setTop (entryFrame m #[(.ref ob), (.int p1)] 4)) t := fun t k => by
          refine pre23 t ?_
          show Steps p.tables e below (T22.setTop (mkF m 26 #[.val (.ref ob), .val (.int p1), .val (.int (p1 &&& (255 : Int32))), .unset] [(.int hi), (.int (p1 &&& (255 : Int32)))])) _
          refine XS.icmpYes X22.here hx rfl (pc0 := 26) (pc' := 33) rfl (hb hby d4_26) rfl (tlt hc26_24).2.2.1 (by decide) (by decide) ?_
          show Steps p.tables e below (T22.setTop (mkF m 33 #[.val (.ref ob), .val (.int p1), .val (.int (p1 &&& (255 : Int32))), .unset] [])) _
          refine XS.iconst X22.here hx rfl (hb hby d4_33) ?_
          show Steps p.tables e below (T22.setTop (mkF m 34 #[.val (.ref ob), .val (.int p1), .val (.int (p1 &&& (255 : Int32))), .unset] [(.int (0 : Int32))])) _
          refine XS.istoreN X22.here hx rfl (hb hby d4_34) rfl (l' := #[.val (.ref ob), .val (.int p1), .val (.int (p1 &&& (255 : Int32))), .val (.int (0 : Int32))]) rfl ?_
          show Steps p.tables e below (T22.setTop (mkF m 35 #[.val (.ref ob), .val (.int p1), .val (.int (p1 &&& (255 : Int32))), .val (.int (0 : Int32))] [])) _
          refine XS.aloadN X22.here hx rfl (hb hby d4_35) rfl rfl ?_
          show Steps p.tables e below (T22.setTop (mkF m 36 #[.val (.ref ob), .val (.int p1), .val (.int (p1 &&& (255 : Int32))), .val (.int (0 : Int32))] [(.ref ob)])) _
          refine XS.dup X22.here hx rfl (hb hby d4_36) rfl rfl ?_
          show Steps p.tables e below (T22.setTop (mkF m 37 #[.val (.ref ob), .val (.int p1), .val (.int (p1 &&& (255 : Int32))), .val (.int (0 : Int32))] [(.ref ob), (.ref ob)])) _
          refine st25 _ ?_
          show Steps p.tables e below (T25.setTop (mkF m 40 #[.val (.ref ob), .val (.int p1), .val (.int (p1 &&& (255 : Int32))), .val (.int (0 : Int32))] [(.int P), (.ref ob)])) _
          refine XS.iconst X25.here hx rfl (hb hby d4_40) ?_
          show Steps p.tables e below (T25.setTop (mkF m 41 #[.val (.ref ob), .val (.int p1), .val (.int (p1 &&& (255 : Int32))), .val (.int (0 : Int32))] [(.int (1 : Int32)), (.int P), (.ref ob)])) _
          refine XS.isub X25.here hx rfl (hb hby d4_41) rfl ?_
          show Steps p.tables e below (T25.setTop (mkF m 42 #[.val (.ref ob), .val (.int p1), .val (.int (p1 &&& (255 : Int32))), .val (.int (0 : Int32))] [(.int (P - (1 : Int32))), (.ref ob)])) _
          refine st26 _ ?_
          show Steps p.tables e below (T26.setTop (mkF m 45 #[.val (.ref ob), .val (.int p1), .val (.int (p1 &&& (255 : Int32))), .val (.int (0 : Int32))] [])) _
          refine XS.aloadN X26.here hx rfl (hb hby d4_45) rfl rfl ?_
          show Steps p.tables e below (T26.setTop (mkF m 46 #[.val (.ref ob), .val (.int p1), .val (.int (p1 &&& (255 : Int32))), .val (.int (0 : Int32))] [(.ref ob)])) _
          refine XS.sipush X26.here hx rfl (hb hby d4_46) ?_
          show Steps p.tables e below (T26.setTop (mkF m 49 #[.val (.ref ob), .val (.int p1), .val (.int (p1 &&& (255 : Int32))), .val (.int (0 : Int32))] [(.int (128 : Int32)), (.ref ob)])) _
          refine st30 _ ?_
          show Steps p.tables e below (T30.setTop (mkF m 52 #[.val (.ref ob), .val (.int p1), .val (.int (p1 &&& (255 : Int32))), .val (.int (0 : Int32))] [])) _
          refine XS.aloadN X30.here hx rfl (hb hby d4_52) rfl rfl ?_
          show Steps p.tables e below (T30.setTop (mkF m 53 #[.val (.ref ob), .val (.int p1), .val (.int (p1 &&& (255 : Int32))), .val (.int (0 : Int32))] [(.ref ob)])) _
          refine XS.sipush X30.here hx rfl (hb hby d4_53) ?_
          show Steps p.tables e below (T30.setTop (mkF m 56 #[.val (.ref ob), .val (.int p1), .val (.int (p1 &&& (255 : Int32))), .val (.int (0 : Int32))] [(.int (191 : Int32)), (.ref ob)])) _
          refine st34 _ ?_
          show Steps p.tables e below (T34.setTop (mkF m 59 #[.val (.ref ob), .val (.int p1), .val (.int (p1 &&& (255 : Int32))), .val (.int (0 : Int32))] [])) _
          refine XS.goto X34.here hx rfl (pc0 := 59) (pc' := 251) rfl (hb hby d4_59) (by decide) (by decide) ?_
          show Steps p.tables e below (T34.setTop (mkF m 251 #[.val (.ref ob), .val (.int p1), .val (.int (p1 &&& (255 : Int32))), .val (.int (0 : Int32))] [])) _
          refine XS.iloadN X34.here hx rfl (hb hby d4_251) rfl ?_
          exact k
        obtain ⟨fs, hrq, hrun, hended, hW, hsame⟩ := X34.leave (v := some (.int (0 : Int32))) (fun h => by rw [Bd.returns] at h; cases h)
        refine ⟨_, _, pre36 _ ?_, hrun, hended, _, _, rfl, ?_, ⟨_, rfl⟩, hW, hsame.mono (by decide) (by decide)⟩
        · show Steps p.tables e below (T34.setTop (mkF m 252 #[.val (.ref ob), .val (.int p1), .val (.int (p1 &&& (255 : Int32))), .val (.int (0 : Int32))] [(.int (0 : Int32))])) _
          exact retN X34 hx (t := .boolean) Bd.returns (by simp) (hb hby d4_252) hrq
        · show Q4 Z ob p1 P lo hi h0 n0 _ T34.heap _
          rw [e34]
          have hv : own_next P (p1 &&& (255 : Int32)) = (P - (1 : Int32)) := (if_pos hc10_3 : own_next P (p1 &&& (255 : Int32)) = _)
          have c37 : Fld Z h34 ob "com/example/vestline/vestline/io/Utf8Validator" "pending" "I" (.int (P - (1 : Int32))) := ((Fw26.other W30 (Or.inr (slot_ne (a0 := a0) (Or.inl (hw _ (List.mem_of_getElem? (i := 15) rfl))) (Or.inl (hw _ (List.mem_of_getElem? (i := 33) rfl))) (by decide) (t := .int) (t' := .int) (by decide) (by decide)))).other W34 (Or.inr (slot_ne (a0 := a0) (Or.inl (hw _ (List.mem_of_getElem? (i := 15) rfl))) (Or.inl (hw _ (List.mem_of_getElem? (i := 35) rfl))) (by decide) (t := .int) (t' := .int) (by decide) (by decide))))
          have c38 : Fld Z h34 ob "com/example/vestline/vestline/io/Utf8Validator" "lowest" "I" (.int (128 : Int32)) := (Fw30.other W34 (Or.inr (slot_ne (a0 := a0) (Or.inl (hw _ (List.mem_of_getElem? (i := 33) rfl))) (Or.inl (hw _ (List.mem_of_getElem? (i := 35) rfl))) (by decide) (t := .int) (t' := .int) (by decide) (by decide))))
          have c39 : Exa Z h34 ob "com/example/vestline/vestline/io/Utf8Validator" := (c32.wr W34)
          exact ⟨⟨_, rfl⟩, N34, K34, c39, by rw [hv]; exact c37, _, _, c38, Fw34⟩
      · obtain ⟨T40, X40, e40, st40⟩ := getF X22 hx hZ hown (host := "") (Or.inl (hw _ (List.mem_of_getElem? (i := 14) rfl))) Via.refl e22 F_pending (g := (mkF m 37 #[.val (.ref ob), .val (.int p1), .val (.int (p1 &&& (255 : Int32))), .val (.int (1 : Int32))] [(.ref ob), (.ref ob)])) rfl rfl (hb hby d4_37)
        obtain ⟨T41, h41, X41, e41, W41, st41⟩ := putF X40 hx hZ hown (host := "") (Or.inl (hw _ (List.mem_of_getElem? (i := 14) rfl))) Via.refl e40 F_pending E_ob (Or.inl (hw _ (List.mem_of_getElem? (i := 15) rfl))) (hw _ (List.mem_of_getElem? (i := 1) rfl)) (ty := .int) (by decide) rfl rfl (g := (mkF m 42 #[.val (.ref ob), .val (.int p1), .val (.int (p1 &&& (255 : Int32))), .val (.int (1 : Int32))] [(.int (P - (1 : Int32))), (.ref ob)])) rfl rfl (hb hby d4_42)
        have Fw41 : Fld Z h41 ob "com/example/vestline/vestline/io/Utf8Validator" "pending" "I" (.int (P - (1 : Int32))) := F_pending.same W41
        have Z42 : n0 ≤ h41.size := Nat.le_trans Z0 (Keep.of_wr W41).1
        have K41 : Keep h0 h41 [ob] := (Keep.refl h0 [ob]).wr W41 (Or.inl (List.mem_of_getElem? (i := 0) rfl))
        have N41 := Fr.snoc X41 N0 g_ob
        have c43 : Exa Z h41 ob "com/example/vestline/vestline/io/Utf8Validator" := (E_ob.wr W41)
        have c44 : Fld Z h41 ob "com/example/vestline/vestline/io/Utf8Validator" "lowest" "I" (.int lo) := (F_lowest.other W41 (Or.inr (slot_ne (a0 := a0) (Or.inl (hw _ (List.mem_of_getElem? (i := 33) rfl))) (Or.inl (hw _ (List.mem_of_getElem? (i := 15) rfl))) (by decide) (t := .int) (t' := .int) (by decide) (by decide))))
        obtain ⟨T45, h45, X45, e45, W45, st45⟩ := putF X41 hx hZ hown (host := "") (Or.inl (hw _ (List.mem_of_getElem? (i := 32) rfl))) Via.refl e41 c44 c43 (Or.inl (hw _ (List.mem_of_getElem? (i := 33) rfl))) (hw _ (List.mem_of_getElem? (i := 1) rfl)) (ty := .int) (by decide) rfl rfl (g := (mkF m 49 #[.val (.ref ob), .val (.int p1), .val (.int (p1 &&& (255 : Int32))), .val (.int (1 : Int32))] [(.int (128 : Int32)), (.ref ob)])) rfl rfl (hb hby d4_49)
        have Fw45 : Fld Z h45 ob "com/example/vestline/vestline/io/Utf8Validator" "lowest" "I" (.int (128 : Int32)) := c44.same W45
        have Z46 : n0 ≤ h45.size := Nat.le_trans Z42 (Keep.of_wr W45).1
        have K45 : Keep h0 h45 [ob] := K41.wr W45 (Or.inl (List.mem_of_getElem? (i := 0) rfl))
        have N45 := Fr.snoc X45 N41 g_ob
        have c47 : Exa Z h45 ob "com/example/vestline/vestline/io/Utf8Validator" := (c43.wr W45)
        have c48 : Fld Z h45 ob "com/example/vestline/vestline/io/Utf8Validator" "highest" "I" (.int hi) := ((F_highest.other W41 (Or.inr (slot_ne (a0 := a0) (Or.inl (hw _ (List.mem_of_getElem? (i := 35) rfl))) (Or.inl (hw _ (List.mem_of_getElem? (i := 15) rfl))) (by decide) (t := .int) (t' := .int) (by decide) (by decide)))).other W45 (Or.inr (slot_ne (a0 := a0) (Or.inl (hw _ (List.mem_of_getElem? (i := 35) rfl))) (Or.inl (hw _ (List.mem_of_getElem? (i := 33) rfl))) (by decide) (t := .int) (t' := .int) (by decide) (by decide))))
        obtain ⟨T49, h49, X49, e49, W49, st49⟩ := putF X45 hx hZ hown (host := "") (Or.inl (hw _ (List.mem_of_getElem? (i := 34) rfl))) Via.refl e45 c48 c47 (Or.inl (hw _ (List.mem_of_getElem? (i := 35) rfl))) (hw _ (List.mem_of_getElem? (i := 1) rfl)) (ty := .int) (by decide) rfl rfl (g := (mkF m 56 #[.val (.ref ob), .val (.int p1), .val (.int (p1 &&& (255 : Int32))), .val (.int (1 : Int32))] [(.int (191 : Int32)), (.ref ob)])) rfl rfl (hb hby d4_56)
        have Fw49 : Fld Z h49 ob "com/example/vestline/vestline/io/Utf8Validator" "highest" "I" (.int (191 : Int32)) := c48.same W49
        have Z50 : n0 ≤ h49.size := Nat.le_trans Z46 (Keep.of_wr W49).1
        have K49 : Keep h0 h49 [ob] := K45.wr W49 (Or.inl (List.mem_of_getElem? (i := 0) rfl))
        have N49 := Fr.snoc X49 N45 g_ob
        have pre51 : ∀ t, Steps p.tables e below (T49.setTop (mkF m 252 #[.val (.ref ob), .val (.int p1), .val (.int (p1 &&& (255 : Int32))), .val (.int (1 : Int32))] [(.int (1 : Int32))])) t → Steps p.tables e below (s₁.setTop (entryFrame m #[(.ref ob), (.int p1)] 4)) t := fun t k => by
          refine pre23 t ?_
          show Steps p.tables e below (T22.setTop (mkF m 26 #[.val (.ref ob), .val (.int p1), .val (.int (p1 &&& (255 : Int32))), .unset] [(.int hi), (.int (p1 &&& (255 : Int32)))])) _
          refine XS.icmpNo X22.here hx rfl (hb hby d4_26) rfl (flt hc26_24).2.2.1 ?_
          show Steps p.tables e below (T22.setTop (mkF m 29 #[.val (.ref ob), .val (.int p1), .val (.int (p1 &&& (255 : Int32))), .unset] [])) _
          refine XS.iconst X22.here hx rfl (hb hby d4_29) ?_
          show Steps p.tables e below (T22.setTop (mkF m 30 #[.val (.ref ob), .val (.int p1), .val (.int (p1 &&& (255 : Int32))), .unset] [(.int (1 : Int32))])) _
          refine XS.goto X22.here hx rfl (pc0 := 30) (pc' := 34) rfl (hb hby d4_30) (by decide) (by decide) ?_
          show Steps p.tables e below (T22.setTop (mkF m 34 #[.val (.ref ob), .val (.int p1), .val (.int (p1 &&& (255 : Int32))), .unset] [(.int (1 : Int32))])) _
          refine XS.istoreN X22.here hx rfl (hb hby d4_34) rfl (l' := #[.val (.ref ob), .val (.int p1), .val (.int (p1 &&& (255 : Int32))), .val (.int (1 : Int32))]) rfl ?_
          show Steps p.tables e below (T22.setTop (mkF m 35 #[.val (.ref ob), .val (.int p1), .val (.int (p1 &&& (255 : Int32))), .val (.int (1 : Int32))] [])) _
          refine XS.aloadN X22.here hx rfl (hb hby d4_35) rfl rfl ?_
          show Steps p.tables e below (T22.setTop (mkF m 36 #[.val (.ref ob), .val (.int p1), .val (.int (p1 &&& (255 : Int32))), .val (.int (1 : Int32))] [(.ref ob)])) _
          refine XS.dup X22.here hx rfl (hb hby d4_36) rfl rfl ?_
          show Steps p.tables e below (T22.setTop (mkF m 37 #[.val (.ref ob), .val (.int p1), .val (.int (p1 &&& (255 : Int32))), .val (.int (1 : Int32))] [(.ref ob), (.ref ob)])) _
          refine st40 _ ?_
          show Steps p.tables e below (T40.setTop (mkF m 40 #[.val (.ref ob), .val (.int p1), .val (.int (p1 &&& (255 : Int32))), .val (.int (1 : Int32))] [(.int P), (.ref ob)])) _
          refine XS.iconst X40.here hx rfl (hb hby d4_40) ?_
          show Steps p.tables e below (T40.setTop (mkF m 41 #[.val (.ref ob), .val (.int p1), .val (.int (p1 &&& (255 : Int32))), .val (.int (1 : Int32))] [(.int (1 : Int32)), (.int P), (.ref ob)])) _
          refine XS.isub X40.here hx rfl (hb hby d4_41) rfl ?_
          show Steps p.tables e below (T40.setTop (mkF m 42 #[.val (.ref ob), .val (.int p1), .val (.int (p1 &&& (255 : Int32))), .val (.int (1 : Int32))] [(.int (P - (1 : Int32))), (.ref ob)])) _
          refine st41 _ ?_
          show Steps p.tables e below (T41.setTop (mkF m 45 #[.val (.ref ob), .val (.int p1), .val (.int (p1 &&& (255 : Int32))), .val (.int (1 : Int32))] [])) _
          refine XS.aloadN X41.here hx rfl (hb hby d4_45) rfl rfl ?_
          show Steps p.tables e below (T41.setTop (mkF m 46 #[.val (.ref ob), .val (.int p1), .val (.int (p1 &&& (255 : Int32))), .val (.int (1 : Int32))] [(.ref ob)])) _
          refine XS.sipush X41.here hx rfl (hb hby d4_46) ?_
          show Steps p.tables e below (T41.setTop (mkF m 49 #[.val (.ref ob), .val (.int p1), .val (.int (p1 &&& (255 : Int32))), .val (.int (1 : Int32))] [(.int (128 : Int32)), (.ref ob)])) _
          refine st45 _ ?_
          show Steps p.tables e below (T45.setTop (mkF m 52 #[.val (.ref ob), .val (.int p1), .val (.int (p1 &&& (255 : Int32))), .val (.int (1 : Int32))] [])) _
          refine XS.aloadN X45.here hx rfl (hb hby d4_52) rfl rfl ?_
          show Steps p.tables e below (T45.setTop (mkF m 53 #[.val (.ref ob), .val (.int p1), .val (.int (p1 &&& (255 : Int32))), .val (.int (1 : Int32))] [(.ref ob)])) _
          refine XS.sipush X45.here hx rfl (hb hby d4_53) ?_
          show Steps p.tables e below (T45.setTop (mkF m 56 #[.val (.ref ob), .val (.int p1), .val (.int (p1 &&& (255 : Int32))), .val (.int (1 : Int32))] [(.int (191 : Int32)), (.ref ob)])) _
          refine st49 _ ?_
          show Steps p.tables e below (T49.setTop (mkF m 59 #[.val (.ref ob), .val (.int p1), .val (.int (p1 &&& (255 : Int32))), .val (.int (1 : Int32))] [])) _
          refine XS.goto X49.here hx rfl (pc0 := 59) (pc' := 251) rfl (hb hby d4_59) (by decide) (by decide) ?_
          show Steps p.tables e below (T49.setTop (mkF m 251 #[.val (.ref ob), .val (.int p1), .val (.int (p1 &&& (255 : Int32))), .val (.int (1 : Int32))] [])) _
          refine XS.iloadN X49.here hx rfl (hb hby d4_251) rfl ?_
          exact k
        obtain ⟨fs, hrq, hrun, hended, hW, hsame⟩ := X49.leave (v := some (.int (1 : Int32))) (fun h => by rw [Bd.returns] at h; cases h)
        refine ⟨_, _, pre51 _ ?_, hrun, hended, _, _, rfl, ?_, ⟨_, rfl⟩, hW, hsame.mono (by decide) (by decide)⟩
        · show Steps p.tables e below (T49.setTop (mkF m 252 #[.val (.ref ob), .val (.int p1), .val (.int (p1 &&& (255 : Int32))), .val (.int (1 : Int32))] [(.int (1 : Int32))])) _
          exact retN X49 hx (t := .boolean) Bd.returns (by simp) (hb hby d4_252) hrq
        · show Q4 Z ob p1 P lo hi h0 n0 _ T49.heap _
          rw [e49]
          have hv : own_next P (p1 &&& (255 : Int32)) = (P - (1 : Int32)) := (if_pos hc10_3 : own_next P (p1 &&& (255 : Int32)) = _)
          have c52 : Fld Z h49 ob "com/example/vestline/vestline/io/Utf8Validator" "pending" "I" (.int (P - (1 : Int32))) := ((Fw41.other W45 (Or.inr (slot_ne (a0 := a0) (Or.inl (hw _ (List.mem_of_getElem? (i := 15) rfl))) (Or.inl (hw _ (List.mem_of_getElem? (i := 33) rfl))) (by decide) (t := .int) (t' := .int) (by decide) (by decide)))).other W49 (Or.inr (slot_ne (a0 := a0) (Or.inl (hw _ (List.mem_of_getElem? (i := 15) rfl))) (Or.inl (hw _ (List.mem_of_getElem? (i := 35) rfl))) (by decide) (t := .int) (t' := .int) (by decide) (by decide))))
          have c53 : Fld Z h49 ob "com/example/vestline/vestline/io/Utf8Validator" "lowest" "I" (.int (128 : Int32)) := (Fw45.other W49 (Or.inr (slot_ne (a0 := a0) (Or.inl (hw _ (List.mem_of_getElem? (i := 33) rfl))) (Or.inl (hw _ (List.mem_of_getElem? (i := 35) rfl))) (by decide) (t := .int) (t' := .int) (by decide) (by decide))))
          have c54 : Exa Z h49 ob "com/example/vestline/vestline/io/Utf8Validator" := (c47.wr W49)
          exact ⟨⟨_, rfl⟩, N49, K49, c54, by rw [hv]; exact c52, _, _, c53, Fw49⟩
  · have pre55 : ∀ t, Steps p.tables e below (T1.setTop (mkF m 66 #[.val (.ref ob), .val (.int p1), .val (.int (p1 &&& (255 : Int32))), .unset] [(.int (128 : Int32)), (.int (p1 &&& (255 : Int32)))])) t → Steps p.tables e below (s₁.setTop (entryFrame m #[(.ref ob), (.int p1)] 4)) t := fun t k => by
      refine pre2 t ?_
      show Steps p.tables e below (T1.setTop (mkF m 10 #[.val (.ref ob), .val (.int p1), .val (.int (p1 &&& (255 : Int32))), .unset] [(.int P)])) _
      refine XS.ifYes X1.here hx rfl (pc0 := 10) (pc' := 62) rfl (hb hby d4_10) rfl ((if0 _ _).trans (flt hc10_3).2.2.2) (by decide) (by decide) ?_
      show Steps p.tables e below (T1.setTop (mkF m 62 #[.val (.ref ob), .val (.int p1), .val (.int (p1 &&& (255 : Int32))), .unset] [])) _
      refine XS.iloadN X1.here hx rfl (hb hby d4_62) rfl ?_
      show Steps p.tables e below (T1.setTop (mkF m 63 #[.val (.ref ob), .val (.int p1), .val (.int (p1 &&& (255 : Int32))), .unset] [(.int (p1 &&& (255 : Int32)))])) _
      refine XS.sipush X1.here hx rfl (hb hby d4_63) ?_
      exact k
    by_cases hc66_56 : (p1 &&& (255 : Int32)) < (128 : Int32)
    · have pre57 : ∀ t, Steps p.tables e below (T1.setTop (mkF m 252 #[.val (.ref ob), .val (.int p1), .val (.int (p1 &&& (255 : Int32))), .val (.int (1 : Int32))] [(.int (1 : Int32))])) t → Steps p.tables e below (s₁.setTop (entryFrame m #[(.ref ob), (.int p1)] 4)) t := fun t k => by
        refine pre55 t ?_
        show Steps p.tables e below (T1.setTop (mkF m 66 #[.val (.ref ob), .val (.int p1), .val (.int (p1 &&& (255 : Int32))), .unset] [(.int (128 : Int32)), (.int (p1 &&& (255 : Int32)))])) _
        refine XS.icmpNo X1.here hx rfl (hb hby d4_66) rfl (tlt hc66_56).2.1 ?_
        show Steps p.tables e below (T1.setTop (mkF m 69 #[.val (.ref ob), .val (.int p1), .val (.int (p1 &&& (255 : Int32))), .unset] [])) _
        refine XS.iconst X1.here hx rfl (hb hby d4_69) ?_
        show Steps p.tables e below (T1.setTop (mkF m 70 #[.val (.ref ob), .val (.int p1), .val (.int (p1 &&& (255 : Int32))), .unset] [(.int (1 : Int32))])) _
        refine XS.istoreN X1.here hx rfl (hb hby d4_70) rfl (l' := #[.val (.ref ob), .val (.int p1), .val (.int (p1 &&& (255 : Int32))), .val (.int (1 : Int32))]) rfl ?_
        show Steps p.tables e below (T1.setTop (mkF m 71 #[.val (.ref ob), .val (.int p1), .val (.int (p1 &&& (255 : Int32))), .val (.int (1 : Int32))] [])) _
        refine XS.goto X1.here hx rfl (pc0 := 71) (pc' := 251) rfl (hb hby d4_71) (by decide) (by decide) ?_
        show Steps p.tables e below (T1.setTop (mkF m 251 #[.val (.ref ob), .val (.int p1), .val (.int (p1 &&& (255 : Int32))), .val (.int (1 : Int32))] [])) _
        refine XS.iloadN X1.here hx rfl (hb hby d4_251) rfl ?_
        exact k
      obtain ⟨fs, hrq, hrun, hended, hW, hsame⟩ := X1.leave (v := some (.int (1 : Int32))) (fun h => by rw [Bd.returns] at h; cases h)
      refine ⟨_, _, pre57 _ ?_, hrun, hended, _, _, rfl, ?_, ⟨_, rfl⟩, hW, hsame.mono (by decide) (by decide)⟩
      · show Steps p.tables e below (T1.setTop (mkF m 252 #[.val (.ref ob), .val (.int p1), .val (.int (p1 &&& (255 : Int32))), .val (.int (1 : Int32))] [(.int (1 : Int32))])) _
        exact retN X1 hx (t := .boolean) Bd.returns (by simp) (hb hby d4_252) hrq
      · show Q4 Z ob p1 P lo hi h0 n0 _ T1.heap _
        rw [e1]
        have hv : own_next P (p1 &&& (255 : Int32)) = P := (((if_neg hc10_3 : own_next P (p1 &&& (255 : Int32)) = _).trans (own_na0 hc66_56)).trans (hPz hc10_3).symm)
        exact ⟨⟨_, rfl⟩, N0, (Keep.refl h0 [ob]), E_ob, by rw [hv]; exact F_pending, _, _, F_lowest, F_highest⟩
    · have pre58 : ∀ t, Steps p.tables e below (T1.setTop (mkF m 78 #[.val (.ref ob), .val (.int p1), .val (.int (p1 &&& (255 : Int32))), .unset] [(.int (194 : Int32)), (.int (p1 &&& (255 : Int32)))])) t → Steps p.tables e below (s₁.setTop (entryFrame m #[(.ref ob), (.int p1)] 4)) t := fun t k => by
        refine pre55 t ?_
        show Steps p.tables e below (T1.setTop (mkF m 66 #[.val (.ref ob), .val (.int p1), .val (.int (p1 &&& (255 : Int32))), .unset] [(.int (128 : Int32)), (.int (p1 &&& (255 : Int32)))])) _
        refine XS.icmpYes X1.here hx rfl (pc0 := 66) (pc' := 74) rfl (hb hby d4_66) rfl (flt hc66_56).2.1 (by decide) (by decide) ?_
        show Steps p.tables e below (T1.setTop (mkF m 74 #[.val (.ref ob), .val (.int p1), .val (.int (p1 &&& (255 : Int32))), .unset] [])) _
        refine XS.iloadN X1.here hx rfl (hb hby d4_74) rfl ?_
        show Steps p.tables e below (T1.setTop (mkF m 75 #[.val (.ref ob), .val (.int p1), .val (.int (p1 &&& (255 : Int32))), .unset] [(.int (p1 &&& (255 : Int32)))])) _
        refine XS.sipush X1.here hx rfl (hb hby d4_75) ?_
        exact k
      by_cases hc78_59 : (p1 &&& (255 : Int32)) < (194 : Int32)
      · have pre60 : ∀ t, Steps p.tables e below (T1.setTop (mkF m 107 #[.val (.ref ob), .val (.int p1), .val (.int (p1 &&& (255 : Int32))), .unset] [(.int (224 : Int32)), (.int (p1 &&& (255 : Int32)))])) t → Steps p.tables e below (s₁.setTop (entryFrame m #[(.ref ob), (.int p1)] 4)) t := fun t k => by
          refine pre58 t ?_
          show Steps p.tables e below (T1.setTop (mkF m 78 #[.val (.ref ob), .val (.int p1), .val (.int (p1 &&& (255 : Int32))), .unset] [(.int (194 : Int32)), (.int (p1 &&& (255 : Int32)))])) _
          refine XS.icmpYes X1.here hx rfl (pc0 := 78) (pc' := 103) rfl (hb hby d4_78) rfl (tlt hc78_59).1 (by decide) (by decide) ?_
          show Steps p.tables e below (T1.setTop (mkF m 103 #[.val (.ref ob), .val (.int p1), .val (.int (p1 &&& (255 : Int32))), .unset] [])) _
          refine XS.iloadN X1.here hx rfl (hb hby d4_103) rfl ?_
          show Steps p.tables e below (T1.setTop (mkF m 104 #[.val (.ref ob), .val (.int p1), .val (.int (p1 &&& (255 : Int32))), .unset] [(.int (p1 &&& (255 : Int32)))])) _
          refine XS.sipush X1.here hx rfl (hb hby d4_104) ?_
          exact k
        by_cases hc107_61 : (p1 &&& (255 : Int32)) = (224 : Int32)
        · obtain ⟨cq62, q62, q62'⟩ := E_ob.cell
          obtain ⟨_, _, ⟨T62, L62, k62, n62⟩, -, X62, ⟨Lc62, hQ62, l62, y62, z62⟩, st62⟩ := X1.privateBack hx (y := (⟨"com/example/vestline/vestline/io/Utf8Validator", "expect", "(III)Z"⟩ : MethodName)) hown (mvT hZ (hw _ (List.mem_of_getElem? (i := 28) rfl))) (mvT hZ (hw _ (List.mem_of_getElem? (i := 29) rfl))) (mvT hZ (own_selects_private (hw _ (List.mem_of_getElem? (i := 1) rfl)) (hw _ (List.mem_of_getElem? (i := 30) rfl)) (hw _ (List.mem_of_getElem? (i := 29) rfl)))) (Cond.privateMethod_at (mvP hZ (hw _ (List.mem_of_getElem? (i := 30) rfl)) (args := #[]))) (mvT hZ (hw _ (List.mem_of_getElem? (i := 31) rfl))) (by decide) (backOf (W := 0) (rm7 l Z a0 hw [] ob (2 : Int32) (160 : Int32) (191 : Int32) (.int P) (.int lo) (.int hi) h0 n0 Z0 E_ob F_pending F_lowest F_highest g_ob) hZ (hw _ (List.mem_of_getElem? (i := 31) rfl)) (hw _ (List.mem_of_getElem? (i := 2) rfl)) (by decide) (by decide)) (g := (mkF m 118 #[.val (.ref ob), .val (.int p1), .val (.int (p1 &&& (255 : Int32))), .unset] [(.int (191 : Int32)), (.int (160 : Int32)), (.int (2 : Int32)), (.ref ob)])) rfl (by rw [hml]; rfl) (Steps.refl _) (a := ob) (by rw [e1]; exact q62) q62' (argsL := [(.int (2 : Int32)), (.int (160 : Int32)), (.int (191 : Int32))]) (rest := []) (lenOf pd_1 rfl) rfl (by show 2 * 0 + _ ≤ _; exact Nat.le_of_eq rfl) (hb hby d4_118) (fun _ _ => ⟨rfl, e1, (by decide : 0 + 0 ≤ _), (by decide : 0 + 0 ≤ _)⟩)
          dsimp only [Pt.U, Pt.locs, Pt.cells, Pt.slots] at X62 l62 y62 z62 st62 hQ62
          subst l62 y62 z62
          obtain ⟨rfl, Nq62, Kq62, Eq62, Fp62, Fl62, Fh62⟩ := hQ62
          have N62 := Fr.app N0 Nq62
          have Z63 : n0 ≤ T62.heap.size := Nat.le_trans Z0 Kq62.1
          have K64 : Keep h0 T62.heap [ob] := (Keep.refl h0 [ob]).trans Kq62 (allS (Or.inl (List.mem_of_getElem? (i := 0) rfl)) all0)
          have pre65 : ∀ t, Steps p.tables e below (T62.setTop (mkF m 252 #[.val (.ref ob), .val (.int p1), .val (.int (p1 &&& (255 : Int32))), .val (.int (1 : Int32))] [(.int (1 : Int32))])) t → Steps p.tables e below (s₁.setTop (entryFrame m #[(.ref ob), (.int p1)] 4)) t := fun t k => by
            refine pre60 t ?_
            show Steps p.tables e below (T1.setTop (mkF m 107 #[.val (.ref ob), .val (.int p1), .val (.int (p1 &&& (255 : Int32))), .unset] [(.int (224 : Int32)), (.int (p1 &&& (255 : Int32)))])) _
            refine XS.icmpNo X1.here hx rfl (hb hby d4_107) rfl (teq hc107_61).2 ?_
            show Steps p.tables e below (T1.setTop (mkF m 110 #[.val (.ref ob), .val (.int p1), .val (.int (p1 &&& (255 : Int32))), .unset] [])) _
            refine XS.aloadN X1.here hx rfl (hb hby d4_110) rfl rfl ?_
            show Steps p.tables e below (T1.setTop (mkF m 111 #[.val (.ref ob), .val (.int p1), .val (.int (p1 &&& (255 : Int32))), .unset] [(.ref ob)])) _
            refine XS.iconst X1.here hx rfl (hb hby d4_111) ?_
            show Steps p.tables e below (T1.setTop (mkF m 112 #[.val (.ref ob), .val (.int p1), .val (.int (p1 &&& (255 : Int32))), .unset] [(.int (2 : Int32)), (.ref ob)])) _
            refine XS.sipush X1.here hx rfl (hb hby d4_112) ?_
            show Steps p.tables e below (T1.setTop (mkF m 115 #[.val (.ref ob), .val (.int p1), .val (.int (p1 &&& (255 : Int32))), .unset] [(.int (160 : Int32)), (.int (2 : Int32)), (.ref ob)])) _
            refine XS.sipush X1.here hx rfl (hb hby d4_115) ?_
            show Steps p.tables e below (T1.setTop (mkF m 118 #[.val (.ref ob), .val (.int p1), .val (.int (p1 &&& (255 : Int32))), .unset] [(.int (191 : Int32)), (.int (160 : Int32)), (.int (2 : Int32)), (.ref ob)])) _
            refine st62.trans ?_
            show Steps p.tables e below (T62.setTop (mkF m 121 #[.val (.ref ob), .val (.int p1), .val (.int (p1 &&& (255 : Int32))), .unset] [(.int (1 : Int32))])) _
            refine XS.istoreN X62.here hx rfl (hb hby d4_121) rfl (l' := #[.val (.ref ob), .val (.int p1), .val (.int (p1 &&& (255 : Int32))), .val (.int (1 : Int32))]) rfl ?_
            show Steps p.tables e below (T62.setTop (mkF m 122 #[.val (.ref ob), .val (.int p1), .val (.int (p1 &&& (255 : Int32))), .val (.int (1 : Int32))] [])) _
            refine XS.goto X62.here hx rfl (pc0 := 122) (pc' := 251) rfl (hb hby d4_122) (by decide) (by decide) ?_
            show Steps p.tables e below (T62.setTop (mkF m 251 #[.val (.ref ob), .val (.int p1), .val (.int (p1 &&& (255 : Int32))), .val (.int (1 : Int32))] [])) _
            refine XS.iloadN X62.here hx rfl (hb hby d4_251) rfl ?_
            exact k
          obtain ⟨fs, hrq, hrun, hended, hW, hsame⟩ := X62.leave (v := some (.int (1 : Int32))) (fun h => by rw [Bd.returns] at h; cases h)
          refine ⟨_, _, pre65 _ ?_, hrun, hended, _, _, rfl, ?_, ⟨_, rfl⟩, hW, hsame.mono (by decide) (by decide)⟩
          · show Steps p.tables e below (T62.setTop (mkF m 252 #[.val (.ref ob), .val (.int p1), .val (.int (p1 &&& (255 : Int32))), .val (.int (1 : Int32))] [(.int (1 : Int32))])) _
            exact retN X62 hx (t := .boolean) Bd.returns (by simp) (hb hby d4_252) hrq
          · show Q4 Z ob p1 P lo hi h0 n0 _ T62.heap _
            have hv : own_next P (p1 &&& (255 : Int32)) = (2 : Int32) := ((if_neg hc10_3 : own_next P (p1 &&& (255 : Int32)) = _).trans (own_naE0 hc107_61))
            exact ⟨⟨_, rfl⟩, N62, K64, Eq62, by rw [hv]; exact Fp62, _, _, Fl62, Fh62⟩
        · have pre66 : ∀ t, Steps p.tables e below (T1.setTop (mkF m 129 #[.val (.ref ob), .val (.int p1), .val (.int (p1 &&& (255 : Int32))), .unset] [(.int (237 : Int32)), (.int (p1 &&& (255 : Int32)))])) t → Steps p.tables e below (s₁.setTop (entryFrame m #[(.ref ob), (.int p1)] 4)) t := fun t k => by
            refine pre60 t ?_
            show Steps p.tables e below (T1.setTop (mkF m 107 #[.val (.ref ob), .val (.int p1), .val (.int (p1 &&& (255 : Int32))), .unset] [(.int (224 : Int32)), (.int (p1 &&& (255 : Int32)))])) _
            refine XS.icmpYes X1.here hx rfl (pc0 := 107) (pc' := 125) rfl (hb hby d4_107) rfl (feq hc107_61).2 (by decide) (by decide) ?_
            show Steps p.tables e below (T1.setTop (mkF m 125 #[.val (.ref ob), .val (.int p1), .val (.int (p1 &&& (255 : Int32))), .unset] [])) _
            refine XS.iloadN X1.here hx rfl (hb hby d4_125) rfl ?_
            show Steps p.tables e below (T1.setTop (mkF m 126 #[.val (.ref ob), .val (.int p1), .val (.int (p1 &&& (255 : Int32))), .unset] [(.int (p1 &&& (255 : Int32)))])) _
            refine XS.sipush X1.here hx rfl (hb hby d4_126) ?_
            exact k
          by_cases hc129_67 : (p1 &&& (255 : Int32)) = (237 : Int32)
          · obtain ⟨cq68, q68, q68'⟩ := E_ob.cell
            obtain ⟨_, _, ⟨T68, L68, k68, n68⟩, -, X68, ⟨Lc68, hQ68, l68, y68, z68⟩, st68⟩ := X1.privateBack hx (y := (⟨"com/example/vestline/vestline/io/Utf8Validator", "expect", "(III)Z"⟩ : MethodName)) hown (mvT hZ (hw _ (List.mem_of_getElem? (i := 28) rfl))) (mvT hZ (hw _ (List.mem_of_getElem? (i := 29) rfl))) (mvT hZ (own_selects_private (hw _ (List.mem_of_getElem? (i := 1) rfl)) (hw _ (List.mem_of_getElem? (i := 30) rfl)) (hw _ (List.mem_of_getElem? (i := 29) rfl)))) (Cond.privateMethod_at (mvP hZ (hw _ (List.mem_of_getElem? (i := 30) rfl)) (args := #[]))) (mvT hZ (hw _ (List.mem_of_getElem? (i := 31) rfl))) (by decide) (backOf (W := 0) (rm7 l Z a0 hw [] ob (2 : Int32) (128 : Int32) (159 : Int32) (.int P) (.int lo) (.int hi) h0 n0 Z0 E_ob F_pending F_lowest F_highest g_ob) hZ (hw _ (List.mem_of_getElem? (i := 31) rfl)) (hw _ (List.mem_of_getElem? (i := 2) rfl)) (by decide) (by decide)) (g := (mkF m 140 #[.val (.ref ob), .val (.int p1), .val (.int (p1 &&& (255 : Int32))), .unset] [(.int (159 : Int32)), (.int (128 : Int32)), (.int (2 : Int32)), (.ref ob)])) rfl (by rw [hml]; rfl) (Steps.refl _) (a := ob) (by rw [e1]; exact q68) q68' (argsL := [(.int (2 : Int32)), (.int (128 : Int32)), (.int (159 : Int32))]) (rest := []) (lenOf pd_1 rfl) rfl (by show 2 * 0 + _ ≤ _; exact Nat.le_of_eq rfl) (hb hby d4_140) (fun _ _ => ⟨rfl, e1, (by decide : 0 + 0 ≤ _), (by decide : 0 + 0 ≤ _)⟩)
            dsimp only [Pt.U, Pt.locs, Pt.cells, Pt.slots] at X68 l68 y68 z68 st68 hQ68
            subst l68 y68 z68
            obtain ⟨rfl, Nq68, Kq68, Eq68, Fp68, Fl68, Fh68⟩ := hQ68
            have N68 := Fr.app N0 Nq68
            have Z69 : n0 ≤ T68.heap.size := Nat.le_trans Z0 Kq68.1
            have K70 : Keep h0 T68.heap [ob] := (Keep.refl h0 [ob]).trans Kq68 (allS (Or.inl (List.mem_of_getElem? (i := 0) rfl)) all0)
            have pre71 : ∀ t, Steps p.tables e below (T68.setTop (mkF m 252 #[.val (.ref ob), .val (.int p1), .val (.int (p1 &&& (255 : Int32))), .val (.int (1 : Int32))] [(.int (1 : Int32))])) t → Steps p.tables e below (s₁.setTop (entryFrame m #[(.ref ob), (.int p1)] 4)) t := fun t k => by
              refine pre66 t ?_
              show Steps p.tables e below (T1.setTop (mkF m 129 #[.val (.ref ob), .val (.int p1), .val (.int (p1 &&& (255 : Int32))), .unset] [(.int (237 : Int32)), (.int (p1 &&& (255 : Int32)))])) _
              refine XS.icmpNo X1.here hx rfl (hb hby d4_129) rfl (teq hc129_67).2 ?_
              show Steps p.tables e below (T1.setTop (mkF m 132 #[.val (.ref ob), .val (.int p1), .val (.int (p1 &&& (255 : Int32))), .unset] [])) _
              refine XS.aloadN X1.here hx rfl (hb hby d4_132) rfl rfl ?_
              show Steps p.tables e below (T1.setTop (mkF m 133 #[.val (.ref ob), .val (.int p1), .val (.int (p1 &&& (255 : Int32))), .unset] [(.ref ob)])) _
              refine XS.iconst X1.here hx rfl (hb hby d4_133) ?_
              show Steps p.tables e below (T1.setTop (mkF m 134 #[.val (.ref ob), .val (.int p1), .val (.int (p1 &&& (255 : Int32))), .unset] [(.int (2 : Int32)), (.ref ob)])) _
              refine XS.sipush X1.here hx rfl (hb hby d4_134) ?_
              show Steps p.tables e below (T1.setTop (mkF m 137 #[.val (.ref ob), .val (.int p1), .val (.int (p1 &&& (255 : Int32))), .unset] [(.int (128 : Int32)), (.int (2 : Int32)), (.ref ob)])) _
              refine XS.sipush X1.here hx rfl (hb hby d4_137) ?_
              show Steps p.tables e below (T1.setTop (mkF m 140 #[.val (.ref ob), .val (.int p1), .val (.int (p1 &&& (255 : Int32))), .unset] [(.int (159 : Int32)), (.int (128 : Int32)), (.int (2 : Int32)), (.ref ob)])) _
              refine st68.trans ?_
              show Steps p.tables e below (T68.setTop (mkF m 143 #[.val (.ref ob), .val (.int p1), .val (.int (p1 &&& (255 : Int32))), .unset] [(.int (1 : Int32))])) _
              refine XS.istoreN X68.here hx rfl (hb hby d4_143) rfl (l' := #[.val (.ref ob), .val (.int p1), .val (.int (p1 &&& (255 : Int32))), .val (.int (1 : Int32))]) rfl ?_
              show Steps p.tables e below (T68.setTop (mkF m 144 #[.val (.ref ob), .val (.int p1), .val (.int (p1 &&& (255 : Int32))), .val (.int (1 : Int32))] [])) _
              refine XS.goto X68.here hx rfl (pc0 := 144) (pc' := 251) rfl (hb hby d4_144) (by decide) (by decide) ?_
              show Steps p.tables e below (T68.setTop (mkF m 251 #[.val (.ref ob), .val (.int p1), .val (.int (p1 &&& (255 : Int32))), .val (.int (1 : Int32))] [])) _
              refine XS.iloadN X68.here hx rfl (hb hby d4_251) rfl ?_
              exact k
            obtain ⟨fs, hrq, hrun, hended, hW, hsame⟩ := X68.leave (v := some (.int (1 : Int32))) (fun h => by rw [Bd.returns] at h; cases h)
            refine ⟨_, _, pre71 _ ?_, hrun, hended, _, _, rfl, ?_, ⟨_, rfl⟩, hW, hsame.mono (by decide) (by decide)⟩
            · show Steps p.tables e below (T68.setTop (mkF m 252 #[.val (.ref ob), .val (.int p1), .val (.int (p1 &&& (255 : Int32))), .val (.int (1 : Int32))] [(.int (1 : Int32))])) _
              exact retN X68 hx (t := .boolean) Bd.returns (by simp) (hb hby d4_252) hrq
            · show Q4 Z ob p1 P lo hi h0 n0 _ T68.heap _
              have hv : own_next P (p1 &&& (255 : Int32)) = (2 : Int32) := ((if_neg hc10_3 : own_next P (p1 &&& (255 : Int32)) = _).trans (own_naED hc129_67))
              exact ⟨⟨_, rfl⟩, N68, K70, Eq68, by rw [hv]; exact Fp68, _, _, Fl68, Fh68⟩
          · have pre72 : ∀ t, Steps p.tables e below (T1.setTop (mkF m 151 #[.val (.ref ob), .val (.int p1), .val (.int (p1 &&& (255 : Int32))), .unset] [(.int (225 : Int32)), (.int (p1 &&& (255 : Int32)))])) t → Steps p.tables e below (s₁.setTop (entryFrame m #[(.ref ob), (.int p1)] 4)) t := fun t k => by
              refine pre66 t ?_
              show Steps p.tables e below (T1.setTop (mkF m 129 #[.val (.ref ob), .val (.int p1), .val (.int (p1 &&& (255 : Int32))), .unset] [(.int (237 : Int32)), (.int (p1 &&& (255 : Int32)))])) _
              refine XS.icmpYes X1.here hx rfl (pc0 := 129) (pc' := 147) rfl (hb hby d4_129) rfl (feq hc129_67).2 (by decide) (by decide) ?_
              show Steps p.tables e below (T1.setTop (mkF m 147 #[.val (.ref ob), .val (.int p1), .val (.int (p1 &&& (255 : Int32))), .unset] [])) _
              refine XS.iloadN X1.here hx rfl (hb hby d4_147) rfl ?_
              show Steps p.tables e below (T1.setTop (mkF m 148 #[.val (.ref ob), .val (.int p1), .val (.int (p1 &&& (255 : Int32))), .unset] [(.int (p1 &&& (255 : Int32)))])) _
              refine XS.sipush X1.here hx rfl (hb hby d4_148) ?_
              exact k
            by_cases hc151_73 : (p1 &&& (255 : Int32)) < (225 : Int32)
            · have pre74 : ∀ t, Steps p.tables e below (T1.setTop (mkF m 180 #[.val (.ref ob), .val (.int p1), .val (.int (p1 &&& (255 : Int32))), .unset] [(.int (240 : Int32)), (.int (p1 &&& (255 : Int32)))])) t → Steps p.tables e below (s₁.setTop (entryFrame m #[(.ref ob), (.int p1)] 4)) t := fun t k => by
                refine pre72 t ?_
                show Steps p.tables e below (T1.setTop (mkF m 151 #[.val (.ref ob), .val (.int p1), .val (.int (p1 &&& (255 : Int32))), .unset] [(.int (225 : Int32)), (.int (p1 &&& (255 : Int32)))])) _
                refine XS.icmpYes X1.here hx rfl (pc0 := 151) (pc' := 176) rfl (hb hby d4_151) rfl (tlt hc151_73).1 (by decide) (by decide) ?_
                show Steps p.tables e below (T1.setTop (mkF m 176 #[.val (.ref ob), .val (.int p1), .val (.int (p1 &&& (255 : Int32))), .unset] [])) _
                refine XS.iloadN X1.here hx rfl (hb hby d4_176) rfl ?_
                show Steps p.tables e below (T1.setTop (mkF m 177 #[.val (.ref ob), .val (.int p1), .val (.int (p1 &&& (255 : Int32))), .unset] [(.int (p1 &&& (255 : Int32)))])) _
                refine XS.sipush X1.here hx rfl (hb hby d4_177) ?_
                exact k
              by_cases hc180_75 : (p1 &&& (255 : Int32)) = (240 : Int32)
              · obtain ⟨cq76, q76, q76'⟩ := E_ob.cell
                obtain ⟨_, _, ⟨T76, L76, k76, n76⟩, -, X76, ⟨Lc76, hQ76, l76, y76, z76⟩, st76⟩ := X1.privateBack hx (y := (⟨"com/example/vestline/vestline/io/Utf8Validator", "expect", "(III)Z"⟩ : MethodName)) hown (mvT hZ (hw _ (List.mem_of_getElem? (i := 28) rfl))) (mvT hZ (hw _ (List.mem_of_getElem? (i := 29) rfl))) (mvT hZ (own_selects_private (hw _ (List.mem_of_getElem? (i := 1) rfl)) (hw _ (List.mem_of_getElem? (i := 30) rfl)) (hw _ (List.mem_of_getElem? (i := 29) rfl)))) (Cond.privateMethod_at (mvP hZ (hw _ (List.mem_of_getElem? (i := 30) rfl)) (args := #[]))) (mvT hZ (hw _ (List.mem_of_getElem? (i := 31) rfl))) (by decide) (backOf (W := 0) (rm7 l Z a0 hw [] ob (3 : Int32) (144 : Int32) (191 : Int32) (.int P) (.int lo) (.int hi) h0 n0 Z0 E_ob F_pending F_lowest F_highest g_ob) hZ (hw _ (List.mem_of_getElem? (i := 31) rfl)) (hw _ (List.mem_of_getElem? (i := 2) rfl)) (by decide) (by decide)) (g := (mkF m 191 #[.val (.ref ob), .val (.int p1), .val (.int (p1 &&& (255 : Int32))), .unset] [(.int (191 : Int32)), (.int (144 : Int32)), (.int (3 : Int32)), (.ref ob)])) rfl (by rw [hml]; rfl) (Steps.refl _) (a := ob) (by rw [e1]; exact q76) q76' (argsL := [(.int (3 : Int32)), (.int (144 : Int32)), (.int (191 : Int32))]) (rest := []) (lenOf pd_1 rfl) rfl (by show 2 * 0 + _ ≤ _; exact Nat.le_of_eq rfl) (hb hby d4_191) (fun _ _ => ⟨rfl, e1, (by decide : 0 + 0 ≤ _), (by decide : 0 + 0 ≤ _)⟩)
                dsimp only [Pt.U, Pt.locs, Pt.cells, Pt.slots] at X76 l76 y76 z76 st76 hQ76
                subst l76 y76 z76
                obtain ⟨rfl, Nq76, Kq76, Eq76, Fp76, Fl76, Fh76⟩ := hQ76
                have N76 := Fr.app N0 Nq76
                have Z77 : n0 ≤ T76.heap.size := Nat.le_trans Z0 Kq76.1
                have K78 : Keep h0 T76.heap [ob] := (Keep.refl h0 [ob]).trans Kq76 (allS (Or.inl (List.mem_of_getElem? (i := 0) rfl)) all0)
                have pre79 : ∀ t, Steps p.tables e below (T76.setTop (mkF m 252 #[.val (.ref ob), .val (.int p1), .val (.int (p1 &&& (255 : Int32))), .val (.int (1 : Int32))] [(.int (1 : Int32))])) t → Steps p.tables e below (s₁.setTop (entryFrame m #[(.ref ob), (.int p1)] 4)) t := fun t k => by
                  refine pre74 t ?_
                  show Steps p.tables e below (T1.setTop (mkF m 180 #[.val (.ref ob), .val (.int p1), .val (.int (p1 &&& (255 : Int32))), .unset] [(.int (240 : Int32)), (.int (p1 &&& (255 : Int32)))])) _
                  refine XS.icmpNo X1.here hx rfl (hb hby d4_180) rfl (teq hc180_75).2 ?_
                  show Steps p.tables e below (T1.setTop (mkF m 183 #[.val (.ref ob), .val (.int p1), .val (.int (p1 &&& (255 : Int32))), .unset] [])) _
                  refine XS.aloadN X1.here hx rfl (hb hby d4_183) rfl rfl ?_
                  show Steps p.tables e below (T1.setTop (mkF m 184 #[.val (.ref ob), .val (.int p1), .val (.int (p1 &&& (255 : Int32))), .unset] [(.ref ob)])) _
                  refine XS.iconst X1.here hx rfl (hb hby d4_184) ?_
                  show Steps p.tables e below (T1.setTop (mkF m 185 #[.val (.ref ob), .val (.int p1), .val (.int (p1 &&& (255 : Int32))), .unset] [(.int (3 : Int32)), (.ref ob)])) _
                  refine XS.sipush X1.here hx rfl (hb hby d4_185) ?_
                  show Steps p.tables e below (T1.setTop (mkF m 188 #[.val (.ref ob), .val (.int p1), .val (.int (p1 &&& (255 : Int32))), .unset] [(.int (144 : Int32)), (.int (3 : Int32)), (.ref ob)])) _
                  refine XS.sipush X1.here hx rfl (hb hby d4_188) ?_
                  show Steps p.tables e below (T1.setTop (mkF m 191 #[.val (.ref ob), .val (.int p1), .val (.int (p1 &&& (255 : Int32))), .unset] [(.int (191 : Int32)), (.int (144 : Int32)), (.int (3 : Int32)), (.ref ob)])) _
                  refine st76.trans ?_
                  show Steps p.tables e below (T76.setTop (mkF m 194 #[.val (.ref ob), .val (.int p1), .val (.int (p1 &&& (255 : Int32))), .unset] [(.int (1 : Int32))])) _
                  refine XS.istoreN X76.here hx rfl (hb hby d4_194) rfl (l' := #[.val (.ref ob), .val (.int p1), .val (.int (p1 &&& (255 : Int32))), .val (.int (1 : Int32))]) rfl ?_
                  show Steps p.tables e below (T76.setTop (mkF m 195 #[.val (.ref ob), .val (.int p1), .val (.int (p1 &&& (255 : Int32))), .val (.int (1 : Int32))] [])) _
                  refine XS.goto X76.here hx rfl (pc0 := 195) (pc' := 251) rfl (hb hby d4_195) (by decide) (by decide) ?_
                  show Steps p.tables e below (T76.setTop (mkF m 251 #[.val (.ref ob), .val (.int p1), .val (.int (p1 &&& (255 : Int32))), .val (.int (1 : Int32))] [])) _
                  refine XS.iloadN X76.here hx rfl (hb hby d4_251) rfl ?_
                  exact k
                obtain ⟨fs, hrq, hrun, hended, hW, hsame⟩ := X76.leave (v := some (.int (1 : Int32))) (fun h => by rw [Bd.returns] at h; cases h)
                refine ⟨_, _, pre79 _ ?_, hrun, hended, _, _, rfl, ?_, ⟨_, rfl⟩, hW, hsame.mono (by decide) (by decide)⟩
                · show Steps p.tables e below (T76.setTop (mkF m 252 #[.val (.ref ob), .val (.int p1), .val (.int (p1 &&& (255 : Int32))), .val (.int (1 : Int32))] [(.int (1 : Int32))])) _
                  exact retN X76 hx (t := .boolean) Bd.returns (by simp) (hb hby d4_252) hrq
                · show Q4 Z ob p1 P lo hi h0 n0 _ T76.heap _
                  have hv : own_next P (p1 &&& (255 : Int32)) = (3 : Int32) := ((if_neg hc10_3 : own_next P (p1 &&& (255 : Int32)) = _).trans (own_naF0 hc180_75))
                  exact ⟨⟨_, rfl⟩, N76, K78, Eq76, by rw [hv]; exact Fp76, _, _, Fl76, Fh76⟩
              · have pre80 : ∀ t, Steps p.tables e below (T1.setTop (mkF m 202 #[.val (.ref ob), .val (.int p1), .val (.int (p1 &&& (255 : Int32))), .unset] [(.int (244 : Int32)), (.int (p1 &&& (255 : Int32)))])) t → Steps p.tables e below (s₁.setTop (entryFrame m #[(.ref ob), (.int p1)] 4)) t := fun t k => by
                  refine pre74 t ?_
                  show Steps p.tables e below (T1.setTop (mkF m 180 #[.val (.ref ob), .val (.int p1), .val (.int (p1 &&& (255 : Int32))), .unset] [(.int (240 : Int32)), (.int (p1 &&& (255 : Int32)))])) _
                  refine XS.icmpYes X1.here hx rfl (pc0 := 180) (pc' := 198) rfl (hb hby d4_180) rfl (feq hc180_75).2 (by decide) (by decide) ?_
                  show Steps p.tables e below (T1.setTop (mkF m 198 #[.val (.ref ob), .val (.int p1), .val (.int (p1 &&& (255 : Int32))), .unset] [])) _
                  refine XS.iloadN X1.here hx rfl (hb hby d4_198) rfl ?_
                  show Steps p.tables e below (T1.setTop (mkF m 199 #[.val (.ref ob), .val (.int p1), .val (.int (p1 &&& (255 : Int32))), .unset] [(.int (p1 &&& (255 : Int32)))])) _
                  refine XS.sipush X1.here hx rfl (hb hby d4_199) ?_
                  exact k
                by_cases hc202_81 : (p1 &&& (255 : Int32)) = (244 : Int32)
                · obtain ⟨cq82, q82, q82'⟩ := E_ob.cell
                  obtain ⟨_, _, ⟨T82, L82, k82, n82⟩, -, X82, ⟨Lc82, hQ82, l82, y82, z82⟩, st82⟩ := X1.privateBack hx (y := (⟨"com/example/vestline/vestline/io/Utf8Validator", "expect", "(III)Z"⟩ : MethodName)) hown (mvT hZ (hw _ (List.mem_of_getElem? (i := 28) rfl))) (mvT hZ (hw _ (List.mem_of_getElem? (i := 29) rfl))) (mvT hZ (own_selects_private (hw _ (List.mem_of_getElem? (i := 1) rfl)) (hw _ (List.mem_of_getElem? (i := 30) rfl)) (hw _ (List.mem_of_getElem? (i := 29) rfl)))) (Cond.privateMethod_at (mvP hZ (hw _ (List.mem_of_getElem? (i := 30) rfl)) (args := #[]))) (mvT hZ (hw _ (List.mem_of_getElem? (i := 31) rfl))) (by decide) (backOf (W := 0) (rm7 l Z a0 hw [] ob (3 : Int32) (128 : Int32) (143 : Int32) (.int P) (.int lo) (.int hi) h0 n0 Z0 E_ob F_pending F_lowest F_highest g_ob) hZ (hw _ (List.mem_of_getElem? (i := 31) rfl)) (hw _ (List.mem_of_getElem? (i := 2) rfl)) (by decide) (by decide)) (g := (mkF m 213 #[.val (.ref ob), .val (.int p1), .val (.int (p1 &&& (255 : Int32))), .unset] [(.int (143 : Int32)), (.int (128 : Int32)), (.int (3 : Int32)), (.ref ob)])) rfl (by rw [hml]; rfl) (Steps.refl _) (a := ob) (by rw [e1]; exact q82) q82' (argsL := [(.int (3 : Int32)), (.int (128 : Int32)), (.int (143 : Int32))]) (rest := []) (lenOf pd_1 rfl) rfl (by show 2 * 0 + _ ≤ _; exact Nat.le_of_eq rfl) (hb hby d4_213) (fun _ _ => ⟨rfl, e1, (by decide : 0 + 0 ≤ _), (by decide : 0 + 0 ≤ _)⟩)
                  dsimp only [Pt.U, Pt.locs, Pt.cells, Pt.slots] at X82 l82 y82 z82 st82 hQ82
                  subst l82 y82 z82
                  obtain ⟨rfl, Nq82, Kq82, Eq82, Fp82, Fl82, Fh82⟩ := hQ82
                  have N82 := Fr.app N0 Nq82
                  have Z83 : n0 ≤ T82.heap.size := Nat.le_trans Z0 Kq82.1
                  have K84 : Keep h0 T82.heap [ob] := (Keep.refl h0 [ob]).trans Kq82 (allS (Or.inl (List.mem_of_getElem? (i := 0) rfl)) all0)
                  have pre85 : ∀ t, Steps p.tables e below (T82.setTop (mkF m 252 #[.val (.ref ob), .val (.int p1), .val (.int (p1 &&& (255 : Int32))), .val (.int (1 : Int32))] [(.int (1 : Int32))])) t → Steps p.tables e below (s₁.setTop (entryFrame m #[(.ref ob), (.int p1)] 4)) t := fun t k => by
                    refine pre80 t ?_
                    show Steps p.tables e below (T1.setTop (mkF m 202 #[.val (.ref ob), .val (.int p1), .val (.int (p1 &&& (255 : Int32))), .unset] [(.int (244 : Int32)), (.int (p1 &&& (255 : Int32)))])) _
                    refine XS.icmpNo X1.here hx rfl (hb hby d4_202) rfl (teq hc202_81).2 ?_
                    show Steps p.tables e below (T1.setTop (mkF m 205 #[.val (.ref ob), .val (.int p1), .val (.int (p1 &&& (255 : Int32))), .unset] [])) _
                    refine XS.aloadN X1.here hx rfl (hb hby d4_205) rfl rfl ?_
                    show Steps p.tables e below (T1.setTop (mkF m 206 #[.val (.ref ob), .val (.int p1), .val (.int (p1 &&& (255 : Int32))), .unset] [(.ref ob)])) _
                    refine XS.iconst X1.here hx rfl (hb hby d4_206) ?_
                    show Steps p.tables e below (T1.setTop (mkF m 207 #[.val (.ref ob), .val (.int p1), .val (.int (p1 &&& (255 : Int32))), .unset] [(.int (3 : Int32)), (.ref ob)])) _
                    refine XS.sipush X1.here hx rfl (hb hby d4_207) ?_
                    show Steps p.tables e below (T1.setTop (mkF m 210 #[.val (.ref ob), .val (.int p1), .val (.int (p1 &&& (255 : Int32))), .unset] [(.int (128 : Int32)), (.int (3 : Int32)), (.ref ob)])) _
                    refine XS.sipush X1.here hx rfl (hb hby d4_210) ?_
                    show Steps p.tables e below (T1.setTop (mkF m 213 #[.val (.ref ob), .val (.int p1), .val (.int (p1 &&& (255 : Int32))), .unset] [(.int (143 : Int32)), (.int (128 : Int32)), (.int (3 : Int32)), (.ref ob)])) _
                    refine st82.trans ?_
                    show Steps p.tables e below (T82.setTop (mkF m 216 #[.val (.ref ob), .val (.int p1), .val (.int (p1 &&& (255 : Int32))), .unset] [(.int (1 : Int32))])) _
                    refine XS.istoreN X82.here hx rfl (hb hby d4_216) rfl (l' := #[.val (.ref ob), .val (.int p1), .val (.int (p1 &&& (255 : Int32))), .val (.int (1 : Int32))]) rfl ?_
                    show Steps p.tables e below (T82.setTop (mkF m 217 #[.val (.ref ob), .val (.int p1), .val (.int (p1 &&& (255 : Int32))), .val (.int (1 : Int32))] [])) _
                    refine XS.goto X82.here hx rfl (pc0 := 217) (pc' := 251) rfl (hb hby d4_217) (by decide) (by decide) ?_
                    show Steps p.tables e below (T82.setTop (mkF m 251 #[.val (.ref ob), .val (.int p1), .val (.int (p1 &&& (255 : Int32))), .val (.int (1 : Int32))] [])) _
                    refine XS.iloadN X82.here hx rfl (hb hby d4_251) rfl ?_
                    exact k
                  obtain ⟨fs, hrq, hrun, hended, hW, hsame⟩ := X82.leave (v := some (.int (1 : Int32))) (fun h => by rw [Bd.returns] at h; cases h)
                  refine ⟨_, _, pre85 _ ?_, hrun, hended, _, _, rfl, ?_, ⟨_, rfl⟩, hW, hsame.mono (by decide) (by decide)⟩
                  · show Steps p.tables e below (T82.setTop (mkF m 252 #[.val (.ref ob), .val (.int p1), .val (.int (p1 &&& (255 : Int32))), .val (.int (1 : Int32))] [(.int (1 : Int32))])) _
                    exact retN X82 hx (t := .boolean) Bd.returns (by simp) (hb hby d4_252) hrq
                  · show Q4 Z ob p1 P lo hi h0 n0 _ T82.heap _
                    have hv : own_next P (p1 &&& (255 : Int32)) = (3 : Int32) := ((if_neg hc10_3 : own_next P (p1 &&& (255 : Int32)) = _).trans (own_naF4 hc202_81))
                    exact ⟨⟨_, rfl⟩, N82, K84, Eq82, by rw [hv]; exact Fp82, _, _, Fl82, Fh82⟩
                · have pre86 : ∀ t, Steps p.tables e below (T1.setTop (mkF m 224 #[.val (.ref ob), .val (.int p1), .val (.int (p1 &&& (255 : Int32))), .unset] [(.int (241 : Int32)), (.int (p1 &&& (255 : Int32)))])) t → Steps p.tables e below (s₁.setTop (entryFrame m #[(.ref ob), (.int p1)] 4)) t := fun t k => by
                    refine pre80 t ?_
                    show Steps p.tables e below (T1.setTop (mkF m 202 #[.val (.ref ob), .val (.int p1), .val (.int (p1 &&& (255 : Int32))), .unset] [(.int (244 : Int32)), (.int (p1 &&& (255 : Int32)))])) _
                    refine XS.icmpYes X1.here hx rfl (pc0 := 202) (pc' := 220) rfl (hb hby d4_202) rfl (feq hc202_81).2 (by decide) (by decide) ?_
                    show Steps p.tables e below (T1.setTop (mkF m 220 #[.val (.ref ob), .val (.int p1), .val (.int (p1 &&& (255 : Int32))), .unset] [])) _
                    refine XS.iloadN X1.here hx rfl (hb hby d4_220) rfl ?_
                    show Steps p.tables e below (T1.setTop (mkF m 221 #[.val (.ref ob), .val (.int p1), .val (.int (p1 &&& (255 : Int32))), .unset] [(.int (p1 &&& (255 : Int32)))])) _
                    refine XS.sipush X1.here hx rfl (hb hby d4_221) ?_
                    exact k
                  by_cases hc224_87 : (p1 &&& (255 : Int32)) < (241 : Int32)
                  · have pre88 : ∀ t, Steps p.tables e below (T1.setTop (mkF m 252 #[.val (.ref ob), .val (.int p1), .val (.int (p1 &&& (255 : Int32))), .val (.int (0 : Int32))] [(.int (0 : Int32))])) t → Steps p.tables e below (s₁.setTop (entryFrame m #[(.ref ob), (.int p1)] 4)) t := fun t k => by
                      refine pre86 t ?_
                      show Steps p.tables e below (T1.setTop (mkF m 224 #[.val (.ref ob), .val (.int p1), .val (.int (p1 &&& (255 : Int32))), .unset] [(.int (241 : Int32)), (.int (p1 &&& (255 : Int32)))])) _
                      refine XS.icmpYes X1.here hx rfl (pc0 := 224) (pc' := 249) rfl (hb hby d4_224) rfl (tlt hc224_87).1 (by decide) (by decide) ?_
                      show Steps p.tables e below (T1.setTop (mkF m 249 #[.val (.ref ob), .val (.int p1), .val (.int (p1 &&& (255 : Int32))), .unset] [])) _
                      refine XS.iconst X1.here hx rfl (hb hby d4_249) ?_
                      show Steps p.tables e below (T1.setTop (mkF m 250 #[.val (.ref ob), .val (.int p1), .val (.int (p1 &&& (255 : Int32))), .unset] [(.int (0 : Int32))])) _
                      refine XS.istoreN X1.here hx rfl (hb hby d4_250) rfl (l' := #[.val (.ref ob), .val (.int p1), .val (.int (p1 &&& (255 : Int32))), .val (.int (0 : Int32))]) rfl ?_
                      show Steps p.tables e below (T1.setTop (mkF m 251 #[.val (.ref ob), .val (.int p1), .val (.int (p1 &&& (255 : Int32))), .val (.int (0 : Int32))] [])) _
                      refine XS.iloadN X1.here hx rfl (hb hby d4_251) rfl ?_
                      exact k
                    obtain ⟨fs, hrq, hrun, hended, hW, hsame⟩ := X1.leave (v := some (.int (0 : Int32))) (fun h => by rw [Bd.returns] at h; cases h)
                    refine ⟨_, _, pre88 _ ?_, hrun, hended, _, _, rfl, ?_, ⟨_, rfl⟩, hW, hsame.mono (by decide) (by decide)⟩
                    · show Steps p.tables e below (T1.setTop (mkF m 252 #[.val (.ref ob), .val (.int p1), .val (.int (p1 &&& (255 : Int32))), .val (.int (0 : Int32))] [(.int (0 : Int32))])) _
                      exact retN X1 hx (t := .boolean) Bd.returns (by simp) (hb hby d4_252) hrq
                    · show Q4 Z ob p1 P lo hi h0 n0 _ T1.heap _
                      rw [e1]
                      have hv : own_next P (p1 &&& (255 : Int32)) = P := (((if_neg hc10_3 : own_next P (p1 &&& (255 : Int32)) = _).trans (own_naz (Or.inl hc78_59) hc107_61 hc129_67 (Or.inl hc151_73) hc180_75 hc202_81 (Or.inl hc224_87))).trans (hPz hc10_3).symm)
                      exact ⟨⟨_, rfl⟩, N0, (Keep.refl h0 [ob]), E_ob, by rw [hv]; exact F_pending, _, _, F_lowest, F_highest⟩
                  · have pre89 : ∀ t, Steps p.tables e below (T1.setTop (mkF m 231 #[.val (.ref ob), .val (.int p1), .val (.int (p1 &&& (255 : Int32))), .unset] [(.int (243 : Int32)), (.int (p1 &&& (255 : Int32)))])) t → Steps p.tables e below (s₁.setTop (entryFrame m #[(.ref ob), (.int p1)] 4)) t := fun t k => by
                      refine pre86 t ?_
                      show Steps p.tables e below (T1.setTop (mkF m 224 #[.val (.ref ob), .val (.int p1), .val (.int (p1 &&& (255 : Int32))), .unset] [(.int (241 : Int32)), (.int (p1 &&& (255 : Int32)))])) _
                      refine XS.icmpNo X1.here hx rfl (hb hby d4_224) rfl (flt hc224_87).1 ?_
                      show Steps p.tables e below (T1.setTop (mkF m 227 #[.val (.ref ob), .val (.int p1), .val (.int (p1 &&& (255 : Int32))), .unset] [])) _
                      refine XS.iloadN X1.here hx rfl (hb hby d4_227) rfl ?_
                      show Steps p.tables e below (T1.setTop (mkF m 228 #[.val (.ref ob), .val (.int p1), .val (.int (p1 &&& (255 : Int32))), .unset] [(.int (p1 &&& (255 : Int32)))])) _
                      refine XS.sipush X1.here hx rfl (hb hby d4_228) ?_
                      exact k
                    by_cases hc231_90 : (243 : Int32) < (p1 &&& (255 : Int32))
                    · have pre91 : ∀ t, Steps p.tables e below (T1.setTop (mkF m 252 #[.val (.ref ob), .val (.int p1), .val (.int (p1 &&& (255 : Int32))), .val (.int (0 : Int32))] [(.int (0 : Int32))])) t → Steps p.tables e below (s₁.setTop (entryFrame m #[(.ref ob), (.int p1)] 4)) t := fun t k => by
                        refine pre89 t ?_
                        show Steps p.tables e below (T1.setTop (mkF m 231 #[.val (.ref ob), .val (.int p1), .val (.int (p1 &&& (255 : Int32))), .unset] [(.int (243 : Int32)), (.int (p1 &&& (255 : Int32)))])) _
                        refine XS.icmpYes X1.here hx rfl (pc0 := 231) (pc' := 249) rfl (hb hby d4_231) rfl (tlt hc231_90).2.2.1 (by decide) (by decide) ?_
                        show Steps p.tables e below (T1.setTop (mkF m 249 #[.val (.ref ob), .val (.int p1), .val (.int (p1 &&& (255 : Int32))), .unset] [])) _
                        refine XS.iconst X1.here hx rfl (hb hby d4_249) ?_
                        show Steps p.tables e below (T1.setTop (mkF m 250 #[.val (.ref ob), .val (.int p1), .val (.int (p1 &&& (255 : Int32))), .unset] [(.int (0 : Int32))])) _
                        refine XS.istoreN X1.here hx rfl (hb hby d4_250) rfl (l' := #[.val (.ref ob), .val (.int p1), .val (.int (p1 &&& (255 : Int32))), .val (.int (0 : Int32))]) rfl ?_
                        show Steps p.tables e below (T1.setTop (mkF m 251 #[.val (.ref ob), .val (.int p1), .val (.int (p1 &&& (255 : Int32))), .val (.int (0 : Int32))] [])) _
                        refine XS.iloadN X1.here hx rfl (hb hby d4_251) rfl ?_
                        exact k
                      obtain ⟨fs, hrq, hrun, hended, hW, hsame⟩ := X1.leave (v := some (.int (0 : Int32))) (fun h => by rw [Bd.returns] at h; cases h)
                      refine ⟨_, _, pre91 _ ?_, hrun, hended, _, _, rfl, ?_, ⟨_, rfl⟩, hW, hsame.mono (by decide) (by decide)⟩
                      · show Steps p.tables e below (T1.setTop (mkF m 252 #[.val (.ref ob), .val (.int p1), .val (.int (p1 &&& (255 : Int32))), .val (.int (0 : Int32))] [(.int (0 : Int32))])) _
                        exact retN X1 hx (t := .boolean) Bd.returns (by simp) (hb hby d4_252) hrq
                      · show Q4 Z ob p1 P lo hi h0 n0 _ T1.heap _
                        rw [e1]
                        have hv : own_next P (p1 &&& (255 : Int32)) = P := (((if_neg hc10_3 : own_next P (p1 &&& (255 : Int32)) = _).trans (own_naz (Or.inl hc78_59) hc107_61 hc129_67 (Or.inl hc151_73) hc180_75 hc202_81 (Or.inr hc231_90))).trans (hPz hc10_3).symm)
                        exact ⟨⟨_, rfl⟩, N0, (Keep.refl h0 [ob]), E_ob, by rw [hv]; exact F_pending, _, _, F_lowest, F_highest⟩
                    · obtain ⟨cq92, q92, q92'⟩ := E_ob.cell
                      obtain ⟨_, _, ⟨T92, L92, k92, n92⟩, -, X92, ⟨Lc92, hQ92, l92, y92, z92⟩, st92⟩ := X1.privateBack hx (y := (⟨"com/example/vestline/vestline/io/Utf8Validator", "expect", "(III)Z"⟩ : MethodName)) hown (mvT hZ (hw _ (List.mem_of_getElem? (i := 28) rfl))) (mvT hZ (hw _ (List.mem_of_getElem? (i := 29) rfl))) (mvT hZ (own_selects_private (hw _ (List.mem_of_getElem? (i := 1) rfl)) (hw _ (List.mem_of_getElem? (i := 30) rfl)) (hw _ (List.mem_of_getElem? (i := 29) rfl)))) (Cond.privateMethod_at (mvP hZ (hw _ (List.mem_of_getElem? (i := 30) rfl)) (args := #[]))) (mvT hZ (hw _ (List.mem_of_getElem? (i := 31) rfl))) (by decide) (backOf (W := 0) (rm7 l Z a0 hw [] ob (3 : Int32) (128 : Int32) (191 : Int32) (.int P) (.int lo) (.int hi) h0 n0 Z0 E_ob F_pending F_lowest F_highest g_ob) hZ (hw _ (List.mem_of_getElem? (i := 31) rfl)) (hw _ (List.mem_of_getElem? (i := 2) rfl)) (by decide) (by decide)) (g := (mkF m 242 #[.val (.ref ob), .val (.int p1), .val (.int (p1 &&& (255 : Int32))), .unset] [(.int (191 : Int32)), (.int (128 : Int32)), (.int (3 : Int32)), (.ref ob)])) rfl (by rw [hml]; rfl) (Steps.refl _) (a := ob) (by rw [e1]; exact q92) q92' (argsL := [(.int (3 : Int32)), (.int (128 : Int32)), (.int (191 : Int32))]) (rest := []) (lenOf pd_1 rfl) rfl (by show 2 * 0 + _ ≤ _; exact Nat.le_of_eq rfl) (hb hby d4_242) (fun _ _ => ⟨rfl, e1, (by decide : 0 + 0 ≤ _), (by decide : 0 + 0 ≤ _)⟩)
                      dsimp only [Pt.U, Pt.locs, Pt.cells, Pt.slots] at X92 l92 y92 z92 st92 hQ92
                      subst l92 y92 z92
                      obtain ⟨rfl, Nq92, Kq92, Eq92, Fp92, Fl92, Fh92⟩ := hQ92
                      have N92 := Fr.app N0 Nq92
                      have Z93 : n0 ≤ T92.heap.size := Nat.le_trans Z0 Kq92.1
                      have K94 : Keep h0 T92.heap [ob] := (Keep.refl h0 [ob]).trans Kq92 (allS (Or.inl (List.mem_of_getElem? (i := 0) rfl)) all0)
                      have pre95 : ∀ t, Steps p.tables e below (T92.setTop (mkF m 252 #[.val (.ref ob), .val (.int p1), .val (.int (p1 &&& (255 : Int32))), .val (.int (1 : Int32))] [(.int (1 : Int32))])) t → Steps p.tables e below (s₁.setTop (entryFrame m #[(.ref ob), (.int p1)] 4)) t := fun t k => by
                        refine pre89 t ?_
                        show Steps p.tables e below (T1.setTop (mkF m 231 #[.val (.ref ob), .val (.int p1), .val (.int (p1 &&& (255 : Int32))), .unset] [(.int (243 : Int32)), (.int (p1 &&& (255 : Int32)))])) _
                        refine XS.icmpNo X1.here hx rfl (hb hby d4_231) rfl (flt hc231_90).2.2.1 ?_
                        show Steps p.tables e below (T1.setTop (mkF m 234 #[.val (.ref ob), .val (.int p1), .val (.int (p1 &&& (255 : Int32))), .unset] [])) _
                        refine XS.aloadN X1.here hx rfl (hb hby d4_234) rfl rfl ?_
                        show Steps p.tables e below (T1.setTop (mkF m 235 #[.val (.ref ob), .val (.int p1), .val (.int (p1 &&& (255 : Int32))), .unset] [(.ref ob)])) _
                        refine XS.iconst X1.here hx rfl (hb hby d4_235) ?_
                        show Steps p.tables e below (T1.setTop (mkF m 236 #[.val (.ref ob), .val (.int p1), .val (.int (p1 &&& (255 : Int32))), .unset] [(.int (3 : Int32)), (.ref ob)])) _
                        refine XS.sipush X1.here hx rfl (hb hby d4_236) ?_
                        show Steps p.tables e below (T1.setTop (mkF m 239 #[.val (.ref ob), .val (.int p1), .val (.int (p1 &&& (255 : Int32))), .unset] [(.int (128 : Int32)), (.int (3 : Int32)), (.ref ob)])) _
                        refine XS.sipush X1.here hx rfl (hb hby d4_239) ?_
                        show Steps p.tables e below (T1.setTop (mkF m 242 #[.val (.ref ob), .val (.int p1), .val (.int (p1 &&& (255 : Int32))), .unset] [(.int (191 : Int32)), (.int (128 : Int32)), (.int (3 : Int32)), (.ref ob)])) _
                        refine st92.trans ?_
                        show Steps p.tables e below (T92.setTop (mkF m 245 #[.val (.ref ob), .val (.int p1), .val (.int (p1 &&& (255 : Int32))), .unset] [(.int (1 : Int32))])) _
                        refine XS.istoreN X92.here hx rfl (hb hby d4_245) rfl (l' := #[.val (.ref ob), .val (.int p1), .val (.int (p1 &&& (255 : Int32))), .val (.int (1 : Int32))]) rfl ?_
                        show Steps p.tables e below (T92.setTop (mkF m 246 #[.val (.ref ob), .val (.int p1), .val (.int (p1 &&& (255 : Int32))), .val (.int (1 : Int32))] [])) _
                        refine XS.goto X92.here hx rfl (pc0 := 246) (pc' := 251) rfl (hb hby d4_246) (by decide) (by decide) ?_
                        show Steps p.tables e below (T92.setTop (mkF m 251 #[.val (.ref ob), .val (.int p1), .val (.int (p1 &&& (255 : Int32))), .val (.int (1 : Int32))] [])) _
                        refine XS.iloadN X92.here hx rfl (hb hby d4_251) rfl ?_
                        exact k
                      obtain ⟨fs, hrq, hrun, hended, hW, hsame⟩ := X92.leave (v := some (.int (1 : Int32))) (fun h => by rw [Bd.returns] at h; cases h)
                      refine ⟨_, _, pre95 _ ?_, hrun, hended, _, _, rfl, ?_, ⟨_, rfl⟩, hW, hsame.mono (by decide) (by decide)⟩
                      · show Steps p.tables e below (T92.setTop (mkF m 252 #[.val (.ref ob), .val (.int p1), .val (.int (p1 &&& (255 : Int32))), .val (.int (1 : Int32))] [(.int (1 : Int32))])) _
                        exact retN X92 hx (t := .boolean) Bd.returns (by simp) (hb hby d4_252) hrq
                      · show Q4 Z ob p1 P lo hi h0 n0 _ T92.heap _
                        have hv : own_next P (p1 &&& (255 : Int32)) = (3 : Int32) := ((if_neg hc10_3 : own_next P (p1 &&& (255 : Int32)) = _).trans (own_na3 hc224_87 hc231_90))
                        exact ⟨⟨_, rfl⟩, N92, K94, Eq92, by rw [hv]; exact Fp92, _, _, Fl92, Fh92⟩
            · have pre96 : ∀ t, Steps p.tables e below (T1.setTop (mkF m 158 #[.val (.ref ob), .val (.int p1), .val (.int (p1 &&& (255 : Int32))), .unset] [(.int (239 : Int32)), (.int (p1 &&& (255 : Int32)))])) t → Steps p.tables e below (s₁.setTop (entryFrame m #[(.ref ob), (.int p1)] 4)) t := fun t k => by
                refine pre72 t ?_
                show Steps p.tables e below (T1.setTop (mkF m 151 #[.val (.ref ob), .val (.int p1), .val (.int (p1 &&& (255 : Int32))), .unset] [(.int (225 : Int32)), (.int (p1 &&& (255 : Int32)))])) _
                refine XS.icmpNo X1.here hx rfl (hb hby d4_151) rfl (flt hc151_73).1 ?_
                show Steps p.tables e below (T1.setTop (mkF m 154 #[.val (.ref ob), .val (.int p1), .val (.int (p1 &&& (255 : Int32))), .unset] [])) _
                refine XS.iloadN X1.here hx rfl (hb hby d4_154) rfl ?_
                show Steps p.tables e below (T1.setTop (mkF m 155 #[.val (.ref ob), .val (.int p1), .val (.int (p1 &&& (255 : Int32))), .unset] [(.int (p1 &&& (255 : Int32)))])) _
                refine XS.sipush X1.here hx rfl (hb hby d4_155) ?_
                exact k
              by_cases hc158_97 : (239 : Int32) < (p1 &&& (255 : Int32))
              · have pre98 : ∀ t, Steps p.tables e below (T1.setTop (mkF m 180 #[.val (.ref ob), .val (.int p1), .val (.int (p1 &&& (255 : Int32))), .unset] [(.int (240 : Int32)), (.int (p1 &&& (255 : Int32)))])) t → Steps p.tables e below (s₁.setTop (entryFrame m #[(.ref ob), (.int p1)] 4)) t := fun t k => by
                  refine pre96 t ?_
                  show Steps p.tables e below (T1.setTop (mkF m 158 #[.val (.ref ob), .val (.int p1), .val (.int (p1 &&& (255 : Int32))), .unset] [(.int (239 : Int32)), (.int (p1 &&& (255 : Int32)))])) _
                  refine XS.icmpYes X1.here hx rfl (pc0 := 158) (pc' := 176) rfl (hb hby d4_158) rfl (tlt hc158_97).2.2.1 (by decide) (by decide) ?_
                  show Steps p.tables e below (T1.setTop (mkF m 176 #[.val (.ref ob), .val (.int p1), .val (.int (p1 &&& (255 : Int32))), .unset] [])) _
                  refine XS.iloadN X1.here hx rfl (hb hby d4_176) rfl ?_
                  show Steps p.tables e below (T1.setTop (mkF m 177 #[.val (.ref ob), .val (.int p1), .val (.int (p1 &&& (255 : Int32))), .unset] [(.int (p1 &&& (255 : Int32)))])) _
                  refine XS.sipush X1.here hx rfl (hb hby d4_177) ?_
                  exact k
                by_cases hc180_99 : (p1 &&& (255 : Int32)) = (240 : Int32)
                · obtain ⟨cq100, q100, q100'⟩ := E_ob.cell
                  obtain ⟨_, _, ⟨T100, L100, k100, n100⟩, -, X100, ⟨Lc100, hQ100, l100, y100, z100⟩, st100⟩ := X1.privateBack hx (y := (⟨"com/example/vestline/vestline/io/Utf8Validator", "expect", "(III)Z"⟩ : MethodName)) hown (mvT hZ (hw _ (List.mem_of_getElem? (i := 28) rfl))) (mvT hZ (hw _ (List.mem_of_getElem? (i := 29) rfl))) (mvT hZ (own_selects_private (hw _ (List.mem_of_getElem? (i := 1) rfl)) (hw _ (List.mem_of_getElem? (i := 30) rfl)) (hw _ (List.mem_of_getElem? (i := 29) rfl)))) (Cond.privateMethod_at (mvP hZ (hw _ (List.mem_of_getElem? (i := 30) rfl)) (args := #[]))) (mvT hZ (hw _ (List.mem_of_getElem? (i := 31) rfl))) (by decide) (backOf (W := 0) (rm7 l Z a0 hw [] ob (3 : Int32) (144 : Int32) (191 : Int32) (.int P) (.int lo) (.int hi) h0 n0 Z0 E_ob F_pending F_lowest F_highest g_ob) hZ (hw _ (List.mem_of_getElem? (i := 31) rfl)) (hw _ (List.mem_of_getElem? (i := 2) rfl)) (by decide) (by decide)) (g := (mkF m 191 #[.val (.ref ob), .val (.int p1), .val (.int (p1 &&& (255 : Int32))), .unset] [(.int (191 : Int32)), (.int (144 : Int32)), (.int (3 : Int32)), (.ref ob)])) rfl (by rw [hml]; rfl) (Steps.refl _) (a := ob) (by rw [e1]; exact q100) q100' (argsL := [(.int (3 : Int32)), (.int (144 : Int32)), (.int (191 : Int32))]) (rest := []) (lenOf pd_1 rfl) rfl (by show 2 * 0 + _ ≤ _; exact Nat.le_of_eq rfl) (hb hby d4_191) (fun _ _ => ⟨rfl, e1, (by decide : 0 + 0 ≤ _), (by decide : 0 + 0 ≤ _)⟩)
                  dsimp only [Pt.U, Pt.locs, Pt.cells, Pt.slots] at X100 l100 y100 z100 st100 hQ100
                  subst l100 y100 z100
                  obtain ⟨rfl, Nq100, Kq100, Eq100, Fp100, Fl100, Fh100⟩ := hQ100
                  have N100 := Fr.app N0 Nq100
                  have Z101 : n0 ≤ T100.heap.size := Nat.le_trans Z0 Kq100.1
                  have K102 : Keep h0 T100.heap [ob] := (Keep.refl h0 [ob]).trans Kq100 (allS (Or.inl (List.mem_of_getElem? (i := 0) rfl)) all0)
                  have pre103 : ∀ t, Steps p.tables e below (T100.setTop (mkF m 252 #[.val (.ref ob), .val (.int p1), .val (.int (p1 &&& (255 : Int32))), .val (.int (1 : Int32))] [(.int (1 : Int32))])) t → Steps p.tables e below (s₁.setTop (entryFrame m #[(.ref ob), (.int p1)] 4)) t := fun t k => by
                    refine pre98 t ?_
                    show Steps p.tables e below (T1.setTop (mkF m 180 #[.val (.ref ob), .val (.int p1), .val (.int (p1 &&& (255 : Int32))), .unset] [(.int (240 : Int32)), (.int (p1 &&& (255 : Int32)))])) _
                    refine XS.icmpNo X1.here hx rfl (hb hby d4_180) rfl (teq hc180_99).2 ?_
                    show Steps p.tables e below (T1.setTop (mkF m 183 #[.val (.ref ob), .val (.int p1), .val (.int (p1 &&& (255 : Int32))), .unset] [])) _
                    refine XS.aloadN X1.here hx rfl (hb hby d4_183) rfl rfl ?_
                    show Steps p.tables e below (T1.setTop (mkF m 184 #[.val (.ref ob), .val (.int p1), .val (.int (p1 &&& (255 : Int32))), .unset] [(.ref ob)])) _
                    refine XS.iconst X1.here hx rfl (hb hby d4_184) ?_
                    show Steps p.tables e below (T1.setTop (mkF m 185 #[.val (.ref ob), .val (.int p1), .val (.int (p1 &&& (255 : Int32))), .unset] [(.int (3 : Int32)), (.ref ob)])) _
                    refine XS.sipush X1.here hx rfl (hb hby d4_185) ?_
                    show Steps p.tables e below (T1.setTop (mkF m 188 #[.val (.ref ob), .val (.int p1), .val (.int (p1 &&& (255 : Int32))), .unset] [(.int (144 : Int32)), (.int (3 : Int32)), (.ref ob)])) _
                    refine XS.sipush X1.here hx rfl (hb hby d4_188) ?_
                    show Steps p.tables e below (T1.setTop (mkF m 191 #[.val (.ref ob), .val (.int p1), .val (.int (p1 &&& (255 : Int32))), .unset] [(.int (191 : Int32)), (.int (144 : Int32)), (.int (3 : Int32)), (.ref ob)])) _
                    refine st100.trans ?_
                    show Steps p.tables e below (T100.setTop (mkF m 194 #[.val (.ref ob), .val (.int p1), .val (.int (p1 &&& (255 : Int32))), .unset] [(.int (1 : Int32))])) _
                    refine XS.istoreN X100.here hx rfl (hb hby d4_194) rfl (l' := #[.val (.ref ob), .val (.int p1), .val (.int (p1 &&& (255 : Int32))), .val (.int (1 : Int32))]) rfl ?_
                    show Steps p.tables e below (T100.setTop (mkF m 195 #[.val (.ref ob), .val (.int p1), .val (.int (p1 &&& (255 : Int32))), .val (.int (1 : Int32))] [])) _
                    refine XS.goto X100.here hx rfl (pc0 := 195) (pc' := 251) rfl (hb hby d4_195) (by decide) (by decide) ?_
                    show Steps p.tables e below (T100.setTop (mkF m 251 #[.val (.ref ob), .val (.int p1), .val (.int (p1 &&& (255 : Int32))), .val (.int (1 : Int32))] [])) _
                    refine XS.iloadN X100.here hx rfl (hb hby d4_251) rfl ?_
                    exact k
                  obtain ⟨fs, hrq, hrun, hended, hW, hsame⟩ := X100.leave (v := some (.int (1 : Int32))) (fun h => by rw [Bd.returns] at h; cases h)
                  refine ⟨_, _, pre103 _ ?_, hrun, hended, _, _, rfl, ?_, ⟨_, rfl⟩, hW, hsame.mono (by decide) (by decide)⟩
                  · show Steps p.tables e below (T100.setTop (mkF m 252 #[.val (.ref ob), .val (.int p1), .val (.int (p1 &&& (255 : Int32))), .val (.int (1 : Int32))] [(.int (1 : Int32))])) _
                    exact retN X100 hx (t := .boolean) Bd.returns (by simp) (hb hby d4_252) hrq
                  · show Q4 Z ob p1 P lo hi h0 n0 _ T100.heap _
                    have hv : own_next P (p1 &&& (255 : Int32)) = (3 : Int32) := ((if_neg hc10_3 : own_next P (p1 &&& (255 : Int32)) = _).trans (own_naF0 hc180_99))
                    exact ⟨⟨_, rfl⟩, N100, K102, Eq100, by rw [hv]; exact Fp100, _, _, Fl100, Fh100⟩
                · have pre104 : ∀ t, Steps p.tables e below (T1.setTop (mkF m 202 #[.val (.ref ob), .val (.int p1), .val (.int (p1 &&& (255 : Int32))), .unset] [(.int (244 : Int32)), (.int (p1 &&& (255 : Int32)))])) t → Steps p.tables e below (s₁.setTop (entryFrame m #[(.ref ob), (.int p1)] 4)) t := fun t k => by
                    refine pre98 t ?_
                    show Steps p.tables e below (T1.setTop (mkF m 180 #[.val (.ref ob), .val (.int p1), .val (.int (p1 &&& (255 : Int32))), .unset] [(.int (240 : Int32)), (.int (p1 &&& (255 : Int32)))])) _
                    refine XS.icmpYes X1.here hx rfl (pc0 := 180) (pc' := 198) rfl (hb hby d4_180) rfl (feq hc180_99).2 (by decide) (by decide) ?_
                    show Steps p.tables e below (T1.setTop (mkF m 198 #[.val (.ref ob), .val (.int p1), .val (.int (p1 &&& (255 : Int32))), .unset] [])) _
                    refine XS.iloadN X1.here hx rfl (hb hby d4_198) rfl ?_
                    show Steps p.tables e below (T1.setTop (mkF m 199 #[.val (.ref ob), .val (.int p1), .val (.int (p1 &&& (255 : Int32))), .unset] [(.int (p1 &&& (255 : Int32)))])) _
                    refine XS.sipush X1.here hx rfl (hb hby d4_199) ?_
                    exact k
                  by_cases hc202_105 : (p1 &&& (255 : Int32)) = (244 : Int32)
                  · obtain ⟨cq106, q106, q106'⟩ := E_ob.cell
                    obtain ⟨_, _, ⟨T106, L106, k106, n106⟩, -, X106, ⟨Lc106, hQ106, l106, y106, z106⟩, st106⟩ := X1.privateBack hx (y := (⟨"com/example/vestline/vestline/io/Utf8Validator", "expect", "(III)Z"⟩ : MethodName)) hown (mvT hZ (hw _ (List.mem_of_getElem? (i := 28) rfl))) (mvT hZ (hw _ (List.mem_of_getElem? (i := 29) rfl))) (mvT hZ (own_selects_private (hw _ (List.mem_of_getElem? (i := 1) rfl)) (hw _ (List.mem_of_getElem? (i := 30) rfl)) (hw _ (List.mem_of_getElem? (i := 29) rfl)))) (Cond.privateMethod_at (mvP hZ (hw _ (List.mem_of_getElem? (i := 30) rfl)) (args := #[]))) (mvT hZ (hw _ (List.mem_of_getElem? (i := 31) rfl))) (by decide) (backOf (W := 0) (rm7 l Z a0 hw [] ob (3 : Int32) (128 : Int32) (143 : Int32) (.int P) (.int lo) (.int hi) h0 n0 Z0 E_ob F_pending F_lowest F_highest g_ob) hZ (hw _ (List.mem_of_getElem? (i := 31) rfl)) (hw _ (List.mem_of_getElem? (i := 2) rfl)) (by decide) (by decide)) (g := (mkF m 213 #[.val (.ref ob), .val (.int p1), .val (.int (p1 &&& (255 : Int32))), .unset] [(.int (143 : Int32)), (.int (128 : Int32)), (.int (3 : Int32)), (.ref ob)])) rfl (by rw [hml]; rfl) (Steps.refl _) (a := ob) (by rw [e1]; exact q106) q106' (argsL := [(.int (3 : Int32)), (.int (128 : Int32)), (.int (143 : Int32))]) (rest := []) (lenOf pd_1 rfl) rfl (by show 2 * 0 + _ ≤ _; exact Nat.le_of_eq rfl) (hb hby d4_213) (fun _ _ => ⟨rfl, e1, (by decide : 0 + 0 ≤ _), (by decide : 0 + 0 ≤ _)⟩)
                    dsimp only [Pt.U, Pt.locs, Pt.cells, Pt.slots] at X106 l106 y106 z106 st106 hQ106
                    subst l106 y106 z106
                    obtain ⟨rfl, Nq106, Kq106, Eq106, Fp106, Fl106, Fh106⟩ := hQ106
                    have N106 := Fr.app N0 Nq106
                    have Z107 : n0 ≤ T106.heap.size := Nat.le_trans Z0 Kq106.1
                    have K108 : Keep h0 T106.heap [ob] := (Keep.refl h0 [ob]).trans Kq106 (allS (Or.inl (List.mem_of_getElem? (i := 0) rfl)) all0)
                    have pre109 : ∀ t, Steps p.tables e below (T106.setTop (mkF m 252 #[.val (.ref ob), .val (.int p1), .val (.int (p1 &&& (255 : Int32))), .val (.int (1 : Int32))] [(.int (1 : Int32))])) t → Steps p.tables e below (s₁.setTop (entryFrame m #[(.ref ob), (.int p1)] 4)) t := fun t k => by
                      refine pre104 t ?_
                      show Steps p.tables e below (T1.setTop (mkF m 202 #[.val (.ref ob), .val (.int p1), .val (.int (p1 &&& (255 : Int32))), .unset] [(.int (244 : Int32)), (.int (p1 &&& (255 : Int32)))])) _
                      refine XS.icmpNo X1.here hx rfl (hb hby d4_202) rfl (teq hc202_105).2 ?_
                      show Steps p.tables e below (T1.setTop (mkF m 205 #[.val (.ref ob), .val (.int p1), .val (.int (p1 &&& (255 : Int32))), .unset] [])) _
                      refine XS.aloadN X1.here hx rfl (hb hby d4_205) rfl rfl ?_
                      show Steps p.tables e below (T1.setTop (mkF m 206 #[.val (.ref ob), .val (.int p1), .val (.int (p1 &&& (255 : Int32))), .unset] [(.ref ob)])) _
                      refine XS.iconst X1.here hx rfl (hb hby d4_206) ?_
                      show Steps p.tables e below (T1.setTop (mkF m 207 #[.val (.ref ob), .val (.int p1), .val (.int (p1 &&& (255 : Int32))), .unset] [(.int (3 : Int32)), (.ref ob)])) _
                      refine XS.sipush X1.here hx rfl (hb hby d4_207) ?_
                      show Steps p.tables e below (T1.setTop (mkF m 210 #[.val (.ref ob), .val (.int p1), .val (.int (p1 &&& (255 : Int32))), .unset] [(.int (128 : Int32)), (.int (3 : Int32)), (.ref ob)])) _
                      refine XS.sipush X1.here hx rfl (hb hby d4_210) ?_
                      show Steps p.tables e below (T1.setTop (mkF m 213 #[.val (.ref ob), .val (.int p1), .val (.int (p1 &&& (255 : Int32))), .unset] [(.int (143 : Int32)), (.int (128 : Int32)), (.int (3 : Int32)), (.ref ob)])) _
                      refine st106.trans ?_
                      show Steps p.tables e below (T106.setTop (mkF m 216 #[.val (.ref ob), .val (.int p1), .val (.int (p1 &&& (255 : Int32))), .unset] [(.int (1 : Int32))])) _
                      refine XS.istoreN X106.here hx rfl (hb hby d4_216) rfl (l' := #[.val (.ref ob), .val (.int p1), .val (.int (p1 &&& (255 : Int32))), .val (.int (1 : Int32))]) rfl ?_
                      show Steps p.tables e below (T106.setTop (mkF m 217 #[.val (.ref ob), .val (.int p1), .val (.int (p1 &&& (255 : Int32))), .val (.int (1 : Int32))] [])) _
                      refine XS.goto X106.here hx rfl (pc0 := 217) (pc' := 251) rfl (hb hby d4_217) (by decide) (by decide) ?_
                      show Steps p.tables e below (T106.setTop (mkF m 251 #[.val (.ref ob), .val (.int p1), .val (.int (p1 &&& (255 : Int32))), .val (.int (1 : Int32))] [])) _
                      refine XS.iloadN X106.here hx rfl (hb hby d4_251) rfl ?_
                      exact k
                    obtain ⟨fs, hrq, hrun, hended, hW, hsame⟩ := X106.leave (v := some (.int (1 : Int32))) (fun h => by rw [Bd.returns] at h; cases h)
                    refine ⟨_, _, pre109 _ ?_, hrun, hended, _, _, rfl, ?_, ⟨_, rfl⟩, hW, hsame.mono (by decide) (by decide)⟩
                    · show Steps p.tables e below (T106.setTop (mkF m 252 #[.val (.ref ob), .val (.int p1), .val (.int (p1 &&& (255 : Int32))), .val (.int (1 : Int32))] [(.int (1 : Int32))])) _
                      exact retN X106 hx (t := .boolean) Bd.returns (by simp) (hb hby d4_252) hrq
                    · show Q4 Z ob p1 P lo hi h0 n0 _ T106.heap _
                      have hv : own_next P (p1 &&& (255 : Int32)) = (3 : Int32) := ((if_neg hc10_3 : own_next P (p1 &&& (255 : Int32)) = _).trans (own_naF4 hc202_105))
                      exact ⟨⟨_, rfl⟩, N106, K108, Eq106, by rw [hv]; exact Fp106, _, _, Fl106, Fh106⟩
                  · have pre110 : ∀ t, Steps p.tables e below (T1.setTop (mkF m 224 #[.val (.ref ob), .val (.int p1), .val (.int (p1 &&& (255 : Int32))), .unset] [(.int (241 : Int32)), (.int (p1 &&& (255 : Int32)))])) t → Steps p.tables e below (s₁.setTop (entryFrame m #[(.ref ob), (.int p1)] 4)) t := fun t k => by
                      refine pre104 t ?_
                      show Steps p.tables e below (T1.setTop (mkF m 202 #[.val (.ref ob), .val (.int p1), .val (.int (p1 &&& (255 : Int32))), .unset] [(.int (244 : Int32)), (.int (p1 &&& (255 : Int32)))])) _
                      refine XS.icmpYes X1.here hx rfl (pc0 := 202) (pc' := 220) rfl (hb hby d4_202) rfl (feq hc202_105).2 (by decide) (by decide) ?_
                      show Steps p.tables e below (T1.setTop (mkF m 220 #[.val (.ref ob), .val (.int p1), .val (.int (p1 &&& (255 : Int32))), .unset] [])) _
                      refine XS.iloadN X1.here hx rfl (hb hby d4_220) rfl ?_
                      show Steps p.tables e below (T1.setTop (mkF m 221 #[.val (.ref ob), .val (.int p1), .val (.int (p1 &&& (255 : Int32))), .unset] [(.int (p1 &&& (255 : Int32)))])) _
                      refine XS.sipush X1.here hx rfl (hb hby d4_221) ?_
                      exact k
                    by_cases hc224_111 : (p1 &&& (255 : Int32)) < (241 : Int32)
                    · have pre112 : ∀ t, Steps p.tables e below (T1.setTop (mkF m 252 #[.val (.ref ob), .val (.int p1), .val (.int (p1 &&& (255 : Int32))), .val (.int (0 : Int32))] [(.int (0 : Int32))])) t → Steps p.tables e below (s₁.setTop (entryFrame m #[(.ref ob), (.int p1)] 4)) t := fun t k => by
                        refine pre110 t ?_
                        show Steps p.tables e below (T1.setTop (mkF m 224 #[.val (.ref ob), .val (.int p1), .val (.int (p1 &&& (255 : Int32))), .unset] [(.int (241 : Int32)), (.int (p1 &&& (255 : Int32)))])) _
                        refine XS.icmpYes X1.here hx rfl (pc0 := 224) (pc' := 249) rfl (hb hby d4_224) rfl (tlt hc224_111).1 (by decide) (by decide) ?_
                        show Steps p.tables e below (T1.setTop (mkF m 249 #[.val (.ref ob), .val (.int p1), .val (.int (p1 &&& (255 : Int32))), .unset] [])) _
                        refine XS.iconst X1.here hx rfl (hb hby d4_249) ?_
                        show Steps p.tables e below (T1.setTop (mkF m 250 #[.val (.ref ob), .val (.int p1), .val (.int (p1 &&& (255 : Int32))), .unset] [(.int (0 : Int32))])) _
                        refine XS.istoreN X1.here hx rfl (hb hby d4_250) rfl (l' := #[.val (.ref ob), .val (.int p1), .val (.int (p1 &&& (255 : Int32))), .val (.int (0 : Int32))]) rfl ?_
                        show Steps p.tables e below (T1.setTop (mkF m 251 #[.val (.ref ob), .val (.int p1), .val (.int (p1 &&& (255 : Int32))), .val (.int (0 : Int32))] [])) _
                        refine XS.iloadN X1.here hx rfl (hb hby d4_251) rfl ?_
                        exact k
                      obtain ⟨fs, hrq, hrun, hended, hW, hsame⟩ := X1.leave (v := some (.int (0 : Int32))) (fun h => by rw [Bd.returns] at h; cases h)
                      refine ⟨_, _, pre112 _ ?_, hrun, hended, _, _, rfl, ?_, ⟨_, rfl⟩, hW, hsame.mono (by decide) (by decide)⟩
                      · show Steps p.tables e below (T1.setTop (mkF m 252 #[.val (.ref ob), .val (.int p1), .val (.int (p1 &&& (255 : Int32))), .val (.int (0 : Int32))] [(.int (0 : Int32))])) _
                        exact retN X1 hx (t := .boolean) Bd.returns (by simp) (hb hby d4_252) hrq
                      · show Q4 Z ob p1 P lo hi h0 n0 _ T1.heap _
                        rw [e1]
                        have hv : own_next P (p1 &&& (255 : Int32)) = P := (((if_neg hc10_3 : own_next P (p1 &&& (255 : Int32)) = _).trans (own_naz (Or.inl hc78_59) hc107_61 hc129_67 (Or.inr hc158_97) hc180_99 hc202_105 (Or.inl hc224_111))).trans (hPz hc10_3).symm)
                        exact ⟨⟨_, rfl⟩, N0, (Keep.refl h0 [ob]), E_ob, by rw [hv]; exact F_pending, _, _, F_lowest, F_highest⟩
                    · have pre113 : ∀ t, Steps p.tables e below (T1.setTop (mkF m 231 #[.val (.ref ob), .val (.int p1), .val (.int (p1 &&& (255 : Int32))), .unset] [(.int (243 : Int32)), (.int (p1 &&& (255 : Int32)))])) t → Steps p.tables e below (s₁.setTop (entryFrame m #[(.ref ob), (.int p1)] 4)) t := fun t k => by
                        refine pre110 t ?_
                        show Steps p.tables e below (T1.setTop (mkF m 224 #[.val (.ref ob), .val (.int p1), .val (.int (p1 &&& (255 : Int32))), .unset] [(.int (241 : Int32)), (.int (p1 &&& (255 : Int32)))])) _
                        refine XS.icmpNo X1.here hx rfl (hb hby d4_224) rfl (flt hc224_111).1 ?_
                        show Steps p.tables e below (T1.setTop (mkF m 227 #[.val (.ref ob), .val (.int p1), .val (.int (p1 &&& (255 : Int32))), .unset] [])) _
                        refine XS.iloadN X1.here hx rfl (hb hby d4_227) rfl ?_
                        show Steps p.tables e below (T1.setTop (mkF m 228 #[.val (.ref ob), .val (.int p1), .val (.int (p1 &&& (255 : Int32))), .unset] [(.int (p1 &&& (255 : Int32)))])) _
                        refine XS.sipush X1.here hx rfl (hb hby d4_228) ?_
                        exact k
                      by_cases hc231_114 : (243 : Int32) < (p1 &&& (255 : Int32))
                      · have pre115 : ∀ t, Steps p.tables e below (T1.setTop (mkF m 252 #[.val (.ref ob), .val (.int p1), .val (.int (p1 &&& (255 : Int32))), .val (.int (0 : Int32))] [(.int (0 : Int32))])) t → Steps p.tables e below (s₁.setTop (entryFrame m #[(.ref ob), (.int p1)] 4)) t := fun t k => by
                          refine pre113 t ?_
                          show Steps p.tables e below (T1.setTop (mkF m 231 #[.val (.ref ob), .val (.int p1), .val (.int (p1 &&& (255 : Int32))), .unset] [(.int (243 : Int32)), (.int (p1 &&& (255 : Int32)))])) _
                          refine XS.icmpYes X1.here hx rfl (pc0 := 231) (pc' := 249) rfl (hb hby d4_231) rfl (tlt hc231_114).2.2.1 (by decide) (by decide) ?_
                          show Steps p.tables e below (T1.setTop (mkF m 249 #[.val (.ref ob), .val (.int p1), .val (.int (p1 &&& (255 : Int32))), .unset] [])) _
                          refine XS.iconst X1.here hx rfl (hb hby d4_249) ?_
                          show Steps p.tables e below (T1.setTop (mkF m 250 #[.val (.ref ob), .val (.int p1), .val (.int (p1 &&& (255 : Int32))), .unset] [(.int (0 : Int32))])) _
                          refine XS.istoreN X1.here hx rfl (hb hby d4_250) rfl (l' := #[.val (.ref ob), .val (.int p1), .val (.int (p1 &&& (255 : Int32))), .val (.int (0 : Int32))]) rfl ?_
                          show Steps p.tables e below (T1.setTop (mkF m 251 #[.val (.ref ob), .val (.int p1), .val (.int (p1 &&& (255 : Int32))), .val (.int (0 : Int32))] [])) _
                          refine XS.iloadN X1.here hx rfl (hb hby d4_251) rfl ?_
                          exact k
                        obtain ⟨fs, hrq, hrun, hended, hW, hsame⟩ := X1.leave (v := some (.int (0 : Int32))) (fun h => by rw [Bd.returns] at h; cases h)
                        refine ⟨_, _, pre115 _ ?_, hrun, hended, _, _, rfl, ?_, ⟨_, rfl⟩, hW, hsame.mono (by decide) (by decide)⟩
                        · show Steps p.tables e below (T1.setTop (mkF m 252 #[.val (.ref ob), .val (.int p1), .val (.int (p1 &&& (255 : Int32))), .val (.int (0 : Int32))] [(.int (0 : Int32))])) _
                          exact retN X1 hx (t := .boolean) Bd.returns (by simp) (hb hby d4_252) hrq
                        · show Q4 Z ob p1 P lo hi h0 n0 _ T1.heap _
                          rw [e1]
                          have hv : own_next P (p1 &&& (255 : Int32)) = P := (((if_neg hc10_3 : own_next P (p1 &&& (255 : Int32)) = _).trans (own_naz (Or.inl hc78_59) hc107_61 hc129_67 (Or.inr hc158_97) hc180_99 hc202_105 (Or.inr hc231_114))).trans (hPz hc10_3).symm)
                          exact ⟨⟨_, rfl⟩, N0, (Keep.refl h0 [ob]), E_ob, by rw [hv]; exact F_pending, _, _, F_lowest, F_highest⟩
                      · obtain ⟨cq116, q116, q116'⟩ := E_ob.cell
                        obtain ⟨_, _, ⟨T116, L116, k116, n116⟩, -, X116, ⟨Lc116, hQ116, l116, y116, z116⟩, st116⟩ := X1.privateBack hx (y := (⟨"com/example/vestline/vestline/io/Utf8Validator", "expect", "(III)Z"⟩ : MethodName)) hown (mvT hZ (hw _ (List.mem_of_getElem? (i := 28) rfl))) (mvT hZ (hw _ (List.mem_of_getElem? (i := 29) rfl))) (mvT hZ (own_selects_private (hw _ (List.mem_of_getElem? (i := 1) rfl)) (hw _ (List.mem_of_getElem? (i := 30) rfl)) (hw _ (List.mem_of_getElem? (i := 29) rfl)))) (Cond.privateMethod_at (mvP hZ (hw _ (List.mem_of_getElem? (i := 30) rfl)) (args := #[]))) (mvT hZ (hw _ (List.mem_of_getElem? (i := 31) rfl))) (by decide) (backOf (W := 0) (rm7 l Z a0 hw [] ob (3 : Int32) (128 : Int32) (191 : Int32) (.int P) (.int lo) (.int hi) h0 n0 Z0 E_ob F_pending F_lowest F_highest g_ob) hZ (hw _ (List.mem_of_getElem? (i := 31) rfl)) (hw _ (List.mem_of_getElem? (i := 2) rfl)) (by decide) (by decide)) (g := (mkF m 242 #[.val (.ref ob), .val (.int p1), .val (.int (p1 &&& (255 : Int32))), .unset] [(.int (191 : Int32)), (.int (128 : Int32)), (.int (3 : Int32)), (.ref ob)])) rfl (by rw [hml]; rfl) (Steps.refl _) (a := ob) (by rw [e1]; exact q116) q116' (argsL := [(.int (3 : Int32)), (.int (128 : Int32)), (.int (191 : Int32))]) (rest := []) (lenOf pd_1 rfl) rfl (by show 2 * 0 + _ ≤ _; exact Nat.le_of_eq rfl) (hb hby d4_242) (fun _ _ => ⟨rfl, e1, (by decide : 0 + 0 ≤ _), (by decide : 0 + 0 ≤ _)⟩)
                        dsimp only [Pt.U, Pt.locs, Pt.cells, Pt.slots] at X116 l116 y116 z116 st116 hQ116
                        subst l116 y116 z116
                        obtain ⟨rfl, Nq116, Kq116, Eq116, Fp116, Fl116, Fh116⟩ := hQ116
                        have N116 := Fr.app N0 Nq116
                        have Z117 : n0 ≤ T116.heap.size := Nat.le_trans Z0 Kq116.1
                        have K118 : Keep h0 T116.heap [ob] := (Keep.refl h0 [ob]).trans Kq116 (allS (Or.inl (List.mem_of_getElem? (i := 0) rfl)) all0)
                        have pre119 : ∀ t, Steps p.tables e below (T116.setTop (mkF m 252 #[.val (.ref ob), .val (.int p1), .val (.int (p1 &&& (255 : Int32))), .val (.int (1 : Int32))] [(.int (1 : Int32))])) t → Steps p.tables e below (s₁.setTop (entryFrame m #[(.ref ob), (.int p1)] 4)) t := fun t k => by
                          refine pre113 t ?_
                          show Steps p.tables e below (T1.setTop (mkF m 231 #[.val (.ref ob), .val (.int p1), .val (.int (p1 &&& (255 : Int32))), .unset] [(.int (243 : Int32)), (.int (p1 &&& (255 : Int32)))])) _
                          refine XS.icmpNo X1.here hx rfl (hb hby d4_231) rfl (flt hc231_114).2.2.1 ?_
                          show Steps p.tables e below (T1.setTop (mkF m 234 #[.val (.ref ob), .val (.int p1), .val (.int (p1 &&& (255 : Int32))), .unset] [])) _
                          refine XS.aloadN X1.here hx rfl (hb hby d4_234) rfl rfl ?_
                          show Steps p.tables e below (T1.setTop (mkF m 235 #[.val (.ref ob), .val (.int p1), .val (.int (p1 &&& (255 : Int32))), .unset] [(.ref ob)])) _
                          refine XS.iconst X1.here hx rfl (hb hby d4_235) ?_
                          show Steps p.tables e below (T1.setTop (mkF m 236 #[.val (.ref ob), .val (.int p1), .val (.int (p1 &&& (255 : Int32))), .unset] [(.int (3 : Int32)), (.ref ob)])) _
                          refine XS.sipush X1.here hx rfl (hb hby d4_236) ?_
                          show Steps p.tables e below (T1.setTop (mkF m 239 #[.val (.ref ob), .val (.int p1), .val (.int (p1 &&& (255 : Int32))), .unset] [(.int (128 : Int32)), (.int (3 : Int32)), (.ref ob)])) _
                          refine XS.sipush X1.here hx rfl (hb hby d4_239) ?_
                          show Steps p.tables e below (T1.setTop (mkF m 242 #[.val (.ref ob), .val (.int p1), .val (.int (p1 &&& (255 : Int32))), .unset] [(.int (191 : Int32)), (.int (128 : Int32)), (.int (3 : Int32)), (.ref ob)])) _
                          refine st116.trans ?_
                          show Steps p.tables e below (T116.setTop (mkF m 245 #[.val (.ref ob), .val (.int p1), .val (.int (p1 &&& (255 : Int32))), .unset] [(.int (1 : Int32))])) _
                          refine XS.istoreN X116.here hx rfl (hb hby d4_245) rfl (l' := #[.val (.ref ob), .val (.int p1), .val (.int (p1 &&& (255 : Int32))), .val (.int (1 : Int32))]) rfl ?_
                          show Steps p.tables e below (T116.setTop (mkF m 246 #[.val (.ref ob), .val (.int p1), .val (.int (p1 &&& (255 : Int32))), .val (.int (1 : Int32))] [])) _
                          refine XS.goto X116.here hx rfl (pc0 := 246) (pc' := 251) rfl (hb hby d4_246) (by decide) (by decide) ?_
                          show Steps p.tables e below (T116.setTop (mkF m 251 #[.val (.ref ob), .val (.int p1), .val (.int (p1 &&& (255 : Int32))), .val (.int (1 : Int32))] [])) _
                          refine XS.iloadN X116.here hx rfl (hb hby d4_251) rfl ?_
                          exact k
                        obtain ⟨fs, hrq, hrun, hended, hW, hsame⟩ := X116.leave (v := some (.int (1 : Int32))) (fun h => by rw [Bd.returns] at h; cases h)
                        refine ⟨_, _, pre119 _ ?_, hrun, hended, _, _, rfl, ?_, ⟨_, rfl⟩, hW, hsame.mono (by decide) (by decide)⟩
                        · show Steps p.tables e below (T116.setTop (mkF m 252 #[.val (.ref ob), .val (.int p1), .val (.int (p1 &&& (255 : Int32))), .val (.int (1 : Int32))] [(.int (1 : Int32))])) _
                          exact retN X116 hx (t := .boolean) Bd.returns (by simp) (hb hby d4_252) hrq
                        · show Q4 Z ob p1 P lo hi h0 n0 _ T116.heap _
                          have hv : own_next P (p1 &&& (255 : Int32)) = (3 : Int32) := ((if_neg hc10_3 : own_next P (p1 &&& (255 : Int32)) = _).trans (own_na3 hc224_111 hc231_114))
                          exact ⟨⟨_, rfl⟩, N116, K118, Eq116, by rw [hv]; exact Fp116, _, _, Fl116, Fh116⟩
              · obtain ⟨cq120, q120, q120'⟩ := E_ob.cell
                obtain ⟨_, _, ⟨T120, L120, k120, n120⟩, -, X120, ⟨Lc120, hQ120, l120, y120, z120⟩, st120⟩ := X1.privateBack hx (y := (⟨"com/example/vestline/vestline/io/Utf8Validator", "expect", "(III)Z"⟩ : MethodName)) hown (mvT hZ (hw _ (List.mem_of_getElem? (i := 28) rfl))) (mvT hZ (hw _ (List.mem_of_getElem? (i := 29) rfl))) (mvT hZ (own_selects_private (hw _ (List.mem_of_getElem? (i := 1) rfl)) (hw _ (List.mem_of_getElem? (i := 30) rfl)) (hw _ (List.mem_of_getElem? (i := 29) rfl)))) (Cond.privateMethod_at (mvP hZ (hw _ (List.mem_of_getElem? (i := 30) rfl)) (args := #[]))) (mvT hZ (hw _ (List.mem_of_getElem? (i := 31) rfl))) (by decide) (backOf (W := 0) (rm7 l Z a0 hw [] ob (2 : Int32) (128 : Int32) (191 : Int32) (.int P) (.int lo) (.int hi) h0 n0 Z0 E_ob F_pending F_lowest F_highest g_ob) hZ (hw _ (List.mem_of_getElem? (i := 31) rfl)) (hw _ (List.mem_of_getElem? (i := 2) rfl)) (by decide) (by decide)) (g := (mkF m 169 #[.val (.ref ob), .val (.int p1), .val (.int (p1 &&& (255 : Int32))), .unset] [(.int (191 : Int32)), (.int (128 : Int32)), (.int (2 : Int32)), (.ref ob)])) rfl (by rw [hml]; rfl) (Steps.refl _) (a := ob) (by rw [e1]; exact q120) q120' (argsL := [(.int (2 : Int32)), (.int (128 : Int32)), (.int (191 : Int32))]) (rest := []) (lenOf pd_1 rfl) rfl (by show 2 * 0 + _ ≤ _; exact Nat.le_of_eq rfl) (hb hby d4_169) (fun _ _ => ⟨rfl, e1, (by decide : 0 + 0 ≤ _), (by decide : 0 + 0 ≤ _)⟩)
                dsimp only [Pt.U, Pt.locs, Pt.cells, Pt.slots] at X120 l120 y120 z120 st120 hQ120
                subst l120 y120 z120
                obtain ⟨rfl, Nq120, Kq120, Eq120, Fp120, Fl120, Fh120⟩ := hQ120
                have N120 := Fr.app N0 Nq120
                have Z121 : n0 ≤ T120.heap.size := Nat.le_trans Z0 Kq120.1
                have K122 : Keep h0 T120.heap [ob] := (Keep.refl h0 [ob]).trans Kq120 (allS (Or.inl (List.mem_of_getElem? (i := 0) rfl)) all0)
                have pre123 : ∀ t, Steps p.tables e below (T120.setTop (mkF m 252 #[.val (.ref ob), .val (.int p1), .val (.int (p1 &&& (255 : Int32))), .val (.int (1 : Int32))] [(.int (1 : Int32))])) t → Steps p.tables e below (s₁.setTop (entryFrame m #[(.ref ob), (.int p1)] 4)) t := fun t k => by
                  refine pre96 t ?_
                  show Steps p.tables e below (T1.setTop (mkF m 158 #[.val (.ref ob), .val (.int p1), .val (.int (p1 &&& (255 : Int32))), .unset] [(.int (239 : Int32)), (.int (p1 &&& (255 : Int32)))])) _
                  refine XS.icmpNo X1.here hx rfl (hb hby d4_158) rfl (flt hc158_97).2.2.1 ?_
                  show Steps p.tables e below (T1.setTop (mkF m 161 #[.val (.ref ob), .val (.int p1), .val (.int (p1 &&& (255 : Int32))), .unset] [])) _
                  refine XS.aloadN X1.here hx rfl (hb hby d4_161) rfl rfl ?_
                  show Steps p.tables e below (T1.setTop (mkF m 162 #[.val (.ref ob), .val (.int p1), .val (.int (p1 &&& (255 : Int32))), .unset] [(.ref ob)])) _
                  refine XS.iconst X1.here hx rfl (hb hby d4_162) ?_
                  show Steps p.tables e below (T1.setTop (mkF m 163 #[.val (.ref ob), .val (.int p1), .val (.int (p1 &&& (255 : Int32))), .unset] [(.int (2 : Int32)), (.ref ob)])) _
                  refine XS.sipush X1.here hx rfl (hb hby d4_163) ?_
                  show Steps p.tables e below (T1.setTop (mkF m 166 #[.val (.ref ob), .val (.int p1), .val (.int (p1 &&& (255 : Int32))), .unset] [(.int (128 : Int32)), (.int (2 : Int32)), (.ref ob)])) _
                  refine XS.sipush X1.here hx rfl (hb hby d4_166) ?_
                  show Steps p.tables e below (T1.setTop (mkF m 169 #[.val (.ref ob), .val (.int p1), .val (.int (p1 &&& (255 : Int32))), .unset] [(.int (191 : Int32)), (.int (128 : Int32)), (.int (2 : Int32)), (.ref ob)])) _
                  refine st120.trans ?_
                  show Steps p.tables e below (T120.setTop (mkF m 172 #[.val (.ref ob), .val (.int p1), .val (.int (p1 &&& (255 : Int32))), .unset] [(.int (1 : Int32))])) _
                  refine XS.istoreN X120.here hx rfl (hb hby d4_172) rfl (l' := #[.val (.ref ob), .val (.int p1), .val (.int (p1 &&& (255 : Int32))), .val (.int (1 : Int32))]) rfl ?_
                  show Steps p.tables e below (T120.setTop (mkF m 173 #[.val (.ref ob), .val (.int p1), .val (.int (p1 &&& (255 : Int32))), .val (.int (1 : Int32))] [])) _
                  refine XS.goto X120.here hx rfl (pc0 := 173) (pc' := 251) rfl (hb hby d4_173) (by decide) (by decide) ?_
                  show Steps p.tables e below (T120.setTop (mkF m 251 #[.val (.ref ob), .val (.int p1), .val (.int (p1 &&& (255 : Int32))), .val (.int (1 : Int32))] [])) _
                  refine XS.iloadN X120.here hx rfl (hb hby d4_251) rfl ?_
                  exact k
                obtain ⟨fs, hrq, hrun, hended, hW, hsame⟩ := X120.leave (v := some (.int (1 : Int32))) (fun h => by rw [Bd.returns] at h; cases h)
                refine ⟨_, _, pre123 _ ?_, hrun, hended, _, _, rfl, ?_, ⟨_, rfl⟩, hW, hsame.mono (by decide) (by decide)⟩
                · show Steps p.tables e below (T120.setTop (mkF m 252 #[.val (.ref ob), .val (.int p1), .val (.int (p1 &&& (255 : Int32))), .val (.int (1 : Int32))] [(.int (1 : Int32))])) _
                  exact retN X120 hx (t := .boolean) Bd.returns (by simp) (hb hby d4_252) hrq
                · show Q4 Z ob p1 P lo hi h0 n0 _ T120.heap _
                  have hv : own_next P (p1 &&& (255 : Int32)) = (2 : Int32) := ((if_neg hc10_3 : own_next P (p1 &&& (255 : Int32)) = _).trans (own_na2 hc151_73 hc158_97))
                  exact ⟨⟨_, rfl⟩, N120, K122, Eq120, by rw [hv]; exact Fp120, _, _, Fl120, Fh120⟩
      · have pre124 : ∀ t, Steps p.tables e below (T1.setTop (mkF m 85 #[.val (.ref ob), .val (.int p1), .val (.int (p1 &&& (255 : Int32))), .unset] [(.int (223 : Int32)), (.int (p1 &&& (255 : Int32)))])) t → Steps p.tables e below (s₁.setTop (entryFrame m #[(.ref ob), (.int p1)] 4)) t := fun t k => by
          refine pre58 t ?_
          show Steps p.tables e below (T1.setTop (mkF m 78 #[.val (.ref ob), .val (.int p1), .val (.int (p1 &&& (255 : Int32))), .unset] [(.int (194 : Int32)), (.int (p1 &&& (255 : Int32)))])) _
          refine XS.icmpNo X1.here hx rfl (hb hby d4_78) rfl (flt hc78_59).1 ?_
          show Steps p.tables e below (T1.setTop (mkF m 81 #[.val (.ref ob), .val (.int p1), .val (.int (p1 &&& (255 : Int32))), .unset] [])) _
          refine XS.iloadN X1.here hx rfl (hb hby d4_81) rfl ?_
          show Steps p.tables e below (T1.setTop (mkF m 82 #[.val (.ref ob), .val (.int p1), .val (.int (p1 &&& (255 : Int32))), .unset] [(.int (p1 &&& (255 : Int32)))])) _
          refine XS.sipush X1.here hx rfl (hb hby d4_82) ?_
          exact k
        by_cases hc85_125 : (223 : Int32) < (p1 &&& (255 : Int32))
        · have pre126 : ∀ t, Steps p.tables e below (T1.setTop (mkF m 107 #[.val (.ref ob), .val (.int p1), .val (.int (p1 &&& (255 : Int32))), .unset] [(.int (224 : Int32)), (.int (p1 &&& (255 : Int32)))])) t → Steps p.tables e below (s₁.setTop (entryFrame m #[(.ref ob), (.int p1)] 4)) t := fun t k => by
            refine pre124 t ?_
            show Steps p.tables e below (T1.setTop (mkF m 85 #[.val (.ref ob), .val (.int p1), .val (.int (p1 &&& (255 : Int32))), .unset] [(.int (223 : Int32)), (.int (p1 &&& (255 : Int32)))])) _
            refine XS.icmpYes X1.here hx rfl (pc0 := 85) (pc' := 103) rfl (hb hby d4_85) rfl (tlt hc85_125).2.2.1 (by decide) (by decide) ?_
            show Steps p.tables e below (T1.setTop (mkF m 103 #[.val (.ref ob), .val (.int p1), .val (.int (p1 &&& (255 : Int32))), .unset] [])) _
            refine XS.iloadN X1.here hx rfl (hb hby d4_103) rfl ?_
            show Steps p.tables e below (T1.setTop (mkF m 104 #[.val (.ref ob), .val (.int p1), .val (.int (p1 &&& (255 : Int32))), .unset] [(.int (p1 &&& (255 : Int32)))])) _
            refine XS.sipush X1.here hx rfl (hb hby d4_104) ?_
            exact k
          by_cases hc107_127 : (p1 &&& (255 : Int32)) = (224 : Int32)
          · obtain ⟨cq128, q128, q128'⟩ := E_ob.cell
            obtain ⟨_, _, ⟨T128, L128, k128, n128⟩, -, X128, ⟨Lc128, hQ128, l128, y128, z128⟩, st128⟩ := X1.privateBack hx (y := (⟨"com/example/vestline/vestline/io/Utf8Validator", "expect", "(III)Z"⟩ : MethodName)) hown (mvT hZ (hw _ (List.mem_of_getElem? (i := 28) rfl))) (mvT hZ (hw _ (List.mem_of_getElem? (i := 29) rfl))) (mvT hZ (own_selects_private (hw _ (List.mem_of_getElem? (i := 1) rfl)) (hw _ (List.mem_of_getElem? (i := 30) rfl)) (hw _ (List.mem_of_getElem? (i := 29) rfl)))) (Cond.privateMethod_at (mvP hZ (hw _ (List.mem_of_getElem? (i := 30) rfl)) (args := #[]))) (mvT hZ (hw _ (List.mem_of_getElem? (i := 31) rfl))) (by decide) (backOf (W := 0) (rm7 l Z a0 hw [] ob (2 : Int32) (160 : Int32) (191 : Int32) (.int P) (.int lo) (.int hi) h0 n0 Z0 E_ob F_pending F_lowest F_highest g_ob) hZ (hw _ (List.mem_of_getElem? (i := 31) rfl)) (hw _ (List.mem_of_getElem? (i := 2) rfl)) (by decide) (by decide)) (g := (mkF m 118 #[.val (.ref ob), .val (.int p1), .val (.int (p1 &&& (255 : Int32))), .unset] [(.int (191 : Int32)), (.int (160 : Int32)), (.int (2 : Int32)), (.ref ob)])) rfl (by rw [hml]; rfl) (Steps.refl _) (a := ob) (by rw [e1]; exact q128) q128' (argsL := [(.int (2 : Int32)), (.int (160 : Int32)), (.int (191 : Int32))]) (rest := []) (lenOf pd_1 rfl) rfl (by show 2 * 0 + _ ≤ _; exact Nat.le_of_eq rfl) (hb hby d4_118) (fun _ _ => ⟨rfl, e1, (by decide : 0 + 0 ≤ _), (by decide : 0 + 0 ≤ _)⟩)
            dsimp only [Pt.U, Pt.locs, Pt.cells, Pt.slots] at X128 l128 y128 z128 st128 hQ128
            subst l128 y128 z128
            obtain ⟨rfl, Nq128, Kq128, Eq128, Fp128, Fl128, Fh128⟩ := hQ128
            have N128 := Fr.app N0 Nq128
            have Z129 : n0 ≤ T128.heap.size := Nat.le_trans Z0 Kq128.1
            have K130 : Keep h0 T128.heap [ob] := (Keep.refl h0 [ob]).trans Kq128 (allS (Or.inl (List.mem_of_getElem? (i := 0) rfl)) all0)
            have pre131 : ∀ t, Steps p.tables e below (T128.setTop (mkF m 252 #[.val (.ref ob), .val (.int p1), .val (.int (p1 &&& (255 : Int32))), .val (.int (1 : Int32))] [(.int (1 : Int32))])) t → Steps p.tables e below (s₁.setTop (entryFrame m #[(.ref ob), (.int p1)] 4)) t := fun t k => by
              refine pre126 t ?_
              show Steps p.tables e below (T1.setTop (mkF m 107 #[.val (.ref ob), .val (.int p1), .val (.int (p1 &&& (255 : Int32))), .unset] [(.int (224 : Int32)), (.int (p1 &&& (255 : Int32)))])) _
              refine XS.icmpNo X1.here hx rfl (hb hby d4_107) rfl (teq hc107_127).2 ?_
              show Steps p.tables e below (T1.setTop (mkF m 110 #[.val (.ref ob), .val (.int p1), .val (.int (p1 &&& (255 : Int32))), .unset] [])) _
              refine XS.aloadN X1.here hx rfl (hb hby d4_110) rfl rfl ?_
              show Steps p.tables e below (T1.setTop (mkF m 111 #[.val (.ref ob), .val (.int p1), .val (.int (p1 &&& (255 : Int32))), .unset] [(.ref ob)])) _
              refine XS.iconst X1.here hx rfl (hb hby d4_111) ?_
              show Steps p.tables e below (T1.setTop (mkF m 112 #[.val (.ref ob), .val (.int p1), .val (.int (p1 &&& (255 : Int32))), .unset] [(.int (2 : Int32)), (.ref ob)])) _
              refine XS.sipush X1.here hx rfl (hb hby d4_112) ?_
              show Steps p.tables e below (T1.setTop (mkF m 115 #[.val (.ref ob), .val (.int p1), .val (.int (p1 &&& (255 : Int32))), .unset] [(.int (160 : Int32)), (.int (2 : Int32)), (.ref ob)])) _
              refine XS.sipush X1.here hx rfl (hb hby d4_115) ?_
              show Steps p.tables e below (T1.setTop (mkF m 118 #[.val (.ref ob), .val (.int p1), .val (.int (p1 &&& (255 : Int32))), .unset] [(.int (191 : Int32)), (.int (160 : Int32)), (.int (2 : Int32)), (.ref ob)])) _
              refine st128.trans ?_
              show Steps p.tables e below (T128.setTop (mkF m 121 #[.val (.ref ob), .val (.int p1), .val (.int (p1 &&& (255 : Int32))), .unset] [(.int (1 : Int32))])) _
              refine XS.istoreN X128.here hx rfl (hb hby d4_121) rfl (l' := #[.val (.ref ob), .val (.int p1), .val (.int (p1 &&& (255 : Int32))), .val (.int (1 : Int32))]) rfl ?_
              show Steps p.tables e below (T128.setTop (mkF m 122 #[.val (.ref ob), .val (.int p1), .val (.int (p1 &&& (255 : Int32))), .val (.int (1 : Int32))] [])) _
              refine XS.goto X128.here hx rfl (pc0 := 122) (pc' := 251) rfl (hb hby d4_122) (by decide) (by decide) ?_
              show Steps p.tables e below (T128.setTop (mkF m 251 #[.val (.ref ob), .val (.int p1), .val (.int (p1 &&& (255 : Int32))), .val (.int (1 : Int32))] [])) _
              refine XS.iloadN X128.here hx rfl (hb hby d4_251) rfl ?_
              exact k
            obtain ⟨fs, hrq, hrun, hended, hW, hsame⟩ := X128.leave (v := some (.int (1 : Int32))) (fun h => by rw [Bd.returns] at h; cases h)
            refine ⟨_, _, pre131 _ ?_, hrun, hended, _, _, rfl, ?_, ⟨_, rfl⟩, hW, hsame.mono (by decide) (by decide)⟩
            · show Steps p.tables e below (T128.setTop (mkF m 252 #[.val (.ref ob), .val (.int p1), .val (.int (p1 &&& (255 : Int32))), .val (.int (1 : Int32))] [(.int (1 : Int32))])) _
              exact retN X128 hx (t := .boolean) Bd.returns (by simp) (hb hby d4_252) hrq
            · show Q4 Z ob p1 P lo hi h0 n0 _ T128.heap _
              have hv : own_next P (p1 &&& (255 : Int32)) = (2 : Int32) := ((if_neg hc10_3 : own_next P (p1 &&& (255 : Int32)) = _).trans (own_naE0 hc107_127))
              exact ⟨⟨_, rfl⟩, N128, K130, Eq128, by rw [hv]; exact Fp128, _, _, Fl128, Fh128⟩
          · have pre132 : ∀ t, Steps p.tables e below (T1.setTop (mkF m 129 #[.val (.ref ob), .val (.int p1), .val (.int (p1 &&& (255 : Int32))), .unset] [(.int (237 : Int32)), (.int (p1 &&& (255 : Int32)))])) t → Steps p.tables e below (s₁.setTop (entryFrame m #[(.ref ob), (.int p1)] 4)) t := fun t k => by
              refine pre126 t ?_
              show Steps p.tables e below (T1.setTop (mkF m 107 #[.val (.ref ob), .val (.int p1), .val (.int (p1 &&& (255 : Int32))), .unset] [(.int (224 : Int32)), (.int (p1 &&& (255 : Int32)))])) _
              refine XS.icmpYes X1.here hx rfl (pc0 := 107) (pc' := 125) rfl (hb hby d4_107) rfl (feq hc107_127).2 (by decide) (by decide) ?_
              show Steps p.tables e below (T1.setTop (mkF m 125 #[.val (.ref ob), .val (.int p1), .val (.int (p1 &&& (255 : Int32))), .unset] [])) _
              refine XS.iloadN X1.here hx rfl (hb hby d4_125) rfl ?_
              show Steps p.tables e below (T1.setTop (mkF m 126 #[.val (.ref ob), .val (.int p1), .val (.int (p1 &&& (255 : Int32))), .unset] [(.int (p1 &&& (255 : Int32)))])) _
              refine XS.sipush X1.here hx rfl (hb hby d4_126) ?_
              exact k
            by_cases hc129_133 : (p1 &&& (255 : Int32)) = (237 : Int32)
            · obtain ⟨cq134, q134, q134'⟩ := E_ob.cell
              obtain ⟨_, _, ⟨T134, L134, k134, n134⟩, -, X134, ⟨Lc134, hQ134, l134, y134, z134⟩, st134⟩ := X1.privateBack hx (y := (⟨"com/example/vestline/vestline/io/Utf8Validator", "expect", "(III)Z"⟩ : MethodName)) hown (mvT hZ (hw _ (List.mem_of_getElem? (i := 28) rfl))) (mvT hZ (hw _ (List.mem_of_getElem? (i := 29) rfl))) (mvT hZ (own_selects_private (hw _ (List.mem_of_getElem? (i := 1) rfl)) (hw _ (List.mem_of_getElem? (i := 30) rfl)) (hw _ (List.mem_of_getElem? (i := 29) rfl)))) (Cond.privateMethod_at (mvP hZ (hw _ (List.mem_of_getElem? (i := 30) rfl)) (args := #[]))) (mvT hZ (hw _ (List.mem_of_getElem? (i := 31) rfl))) (by decide) (backOf (W := 0) (rm7 l Z a0 hw [] ob (2 : Int32) (128 : Int32) (159 : Int32) (.int P) (.int lo) (.int hi) h0 n0 Z0 E_ob F_pending F_lowest F_highest g_ob) hZ (hw _ (List.mem_of_getElem? (i := 31) rfl)) (hw _ (List.mem_of_getElem? (i := 2) rfl)) (by decide) (by decide)) (g := (mkF m 140 #[.val (.ref ob), .val (.int p1), .val (.int (p1 &&& (255 : Int32))), .unset] [(.int (159 : Int32)), (.int (128 : Int32)), (.int (2 : Int32)), (.ref ob)])) rfl (by rw [hml]; rfl) (Steps.refl _) (a := ob) (by rw [e1]; exact q134) q134' (argsL := [(.int (2 : Int32)), (.int (128 : Int32)), (.int (159 : Int32))]) (rest := []) (lenOf pd_1 rfl) rfl (by show 2 * 0 + _ ≤ _; exact Nat.le_of_eq rfl) (hb hby d4_140) (fun _ _ => ⟨rfl, e1, (by decide : 0 + 0 ≤ _), (by decide : 0 + 0 ≤ _)⟩)
              dsimp only [Pt.U, Pt.locs, Pt.cells, Pt.slots] at X134 l134 y134 z134 st134 hQ134
              subst l134 y134 z134
              obtain ⟨rfl, Nq134, Kq134, Eq134, Fp134, Fl134, Fh134⟩ := hQ134
              have N134 := Fr.app N0 Nq134
              have Z135 : n0 ≤ T134.heap.size := Nat.le_trans Z0 Kq134.1
              have K136 : Keep h0 T134.heap [ob] := (Keep.refl h0 [ob]).trans Kq134 (allS (Or.inl (List.mem_of_getElem? (i := 0) rfl)) all0)
              have pre137 : ∀ t, Steps p.tables e below (T134.setTop (mkF m 252 #[.val (.ref ob), .val (.int p1), .val (.int (p1 &&& (255 : Int32))), .val (.int (1 : Int32))] [(.int (1 : Int32))])) t → Steps p.tables e below (s₁.setTop (entryFrame m #[(.ref ob), (.int p1)] 4)) t := fun t k => by
                refine pre132 t ?_
                show Steps p.tables e below (T1.setTop (mkF m 129 #[.val (.ref ob), .val (.int p1), .val (.int (p1 &&& (255 : Int32))), .unset] [(.int (237 : Int32)), (.int (p1 &&& (255 : Int32)))])) _
                refine XS.icmpNo X1.here hx rfl (hb hby d4_129) rfl (teq hc129_133).2 ?_
                show Steps p.tables e below (T1.setTop (mkF m 132 #[.val (.ref ob), .val (.int p1), .val (.int (p1 &&& (255 : Int32))), .unset] [])) _
                refine XS.aloadN X1.here hx rfl (hb hby d4_132) rfl rfl ?_
                show Steps p.tables e below (T1.setTop (mkF m 133 #[.val (.ref ob), .val (.int p1), .val (.int (p1 &&& (255 : Int32))), .unset] [(.ref ob)])) _
                refine XS.iconst X1.here hx rfl (hb hby d4_133) ?_
                show Steps p.tables e below (T1.setTop (mkF m 134 #[.val (.ref ob), .val (.int p1), .val (.int (p1 &&& (255 : Int32))), .unset] [(.int (2 : Int32)), (.ref ob)])) _
                refine XS.sipush X1.here hx rfl (hb hby d4_134) ?_
                show Steps p.tables e below (T1.setTop (mkF m 137 #[.val (.ref ob), .val (.int p1), .val (.int (p1 &&& (255 : Int32))), .unset] [(.int (128 : Int32)), (.int (2 : Int32)), (.ref ob)])) _
                refine XS.sipush X1.here hx rfl (hb hby d4_137) ?_
                show Steps p.tables e below (T1.setTop (mkF m 140 #[.val (.ref ob), .val (.int p1), .val (.int (p1 &&& (255 : Int32))), .unset] [(.int (159 : Int32)), (.int (128 : Int32)), (.int (2 : Int32)), (.ref ob)])) _
                refine st134.trans ?_
                show Steps p.tables e below (T134.setTop (mkF m 143 #[.val (.ref ob), .val (.int p1), .val (.int (p1 &&& (255 : Int32))), .unset] [(.int (1 : Int32))])) _
                refine XS.istoreN X134.here hx rfl (hb hby d4_143) rfl (l' := #[.val (.ref ob), .val (.int p1), .val (.int (p1 &&& (255 : Int32))), .val (.int (1 : Int32))]) rfl ?_
                show Steps p.tables e below (T134.setTop (mkF m 144 #[.val (.ref ob), .val (.int p1), .val (.int (p1 &&& (255 : Int32))), .val (.int (1 : Int32))] [])) _
                refine XS.goto X134.here hx rfl (pc0 := 144) (pc' := 251) rfl (hb hby d4_144) (by decide) (by decide) ?_
                show Steps p.tables e below (T134.setTop (mkF m 251 #[.val (.ref ob), .val (.int p1), .val (.int (p1 &&& (255 : Int32))), .val (.int (1 : Int32))] [])) _
                refine XS.iloadN X134.here hx rfl (hb hby d4_251) rfl ?_
                exact k
              obtain ⟨fs, hrq, hrun, hended, hW, hsame⟩ := X134.leave (v := some (.int (1 : Int32))) (fun h => by rw [Bd.returns] at h; cases h)
              refine ⟨_, _, pre137 _ ?_, hrun, hended, _, _, rfl, ?_, ⟨_, rfl⟩, hW, hsame.mono (by decide) (by decide)⟩
              · show Steps p.tables e below (T134.setTop (mkF m 252 #[.val (.ref ob), .val (.int p1), .val (.int (p1 &&& (255 : Int32))), .val (.int (1 : Int32))] [(.int (1 : Int32))])) _
                exact retN X134 hx (t := .boolean) Bd.returns (by simp) (hb hby d4_252) hrq
              · show Q4 Z ob p1 P lo hi h0 n0 _ T134.heap _
                have hv : own_next P (p1 &&& (255 : Int32)) = (2 : Int32) := ((if_neg hc10_3 : own_next P (p1 &&& (255 : Int32)) = _).trans (own_naED hc129_133))
                exact ⟨⟨_, rfl⟩, N134, K136, Eq134, by rw [hv]; exact Fp134, _, _, Fl134, Fh134⟩
            · have pre138 : ∀ t, Steps p.tables e below (T1.setTop (mkF m 151 #[.val (.ref ob), .val (.int p1), .val (.int (p1 &&& (255 : Int32))), .unset] [(.int (225 : Int32)), (.int (p1 &&& (255 : Int32)))])) t → Steps p.tables e below (s₁.setTop (entryFrame m #[(.ref ob), (.int p1)] 4)) t := fun t k => by
                refine pre132 t ?_
                show Steps p.tables e below (T1.setTop (mkF m 129 #[.val (.ref ob), .val (.int p1), .val (.int (p1 &&& (255 : Int32))), .unset] [(.int (237 : Int32)), (.int (p1 &&& (255 : Int32)))])) _
                refine XS.icmpYes X1.here hx rfl (pc0 := 129) (pc' := 147) rfl (hb hby d4_129) rfl (feq hc129_133).2 (by decide) (by decide) ?_
                show Steps p.tables e below (T1.setTop (mkF m 147 #[.val (.ref ob), .val (.int p1), .val (.int (p1 &&& (255 : Int32))), .unset] [])) _
                refine XS.iloadN X1.here hx rfl (hb hby d4_147) rfl ?_
                show Steps p.tables e below (T1.setTop (mkF m 148 #[.val (.ref ob), .val (.int p1), .val (.int (p1 &&& (255 : Int32))), .unset] [(.int (p1 &&& (255 : Int32)))])) _
                refine XS.sipush X1.here hx rfl (hb hby d4_148) ?_
                exact k
              by_cases hc151_139 : (p1 &&& (255 : Int32)) < (225 : Int32)
              · have pre140 : ∀ t, Steps p.tables e below (T1.setTop (mkF m 180 #[.val (.ref ob), .val (.int p1), .val (.int (p1 &&& (255 : Int32))), .unset] [(.int (240 : Int32)), (.int (p1 &&& (255 : Int32)))])) t → Steps p.tables e below (s₁.setTop (entryFrame m #[(.ref ob), (.int p1)] 4)) t := fun t k => by
                  refine pre138 t ?_
                  show Steps p.tables e below (T1.setTop (mkF m 151 #[.val (.ref ob), .val (.int p1), .val (.int (p1 &&& (255 : Int32))), .unset] [(.int (225 : Int32)), (.int (p1 &&& (255 : Int32)))])) _
                  refine XS.icmpYes X1.here hx rfl (pc0 := 151) (pc' := 176) rfl (hb hby d4_151) rfl (tlt hc151_139).1 (by decide) (by decide) ?_
                  show Steps p.tables e below (T1.setTop (mkF m 176 #[.val (.ref ob), .val (.int p1), .val (.int (p1 &&& (255 : Int32))), .unset] [])) _
                  refine XS.iloadN X1.here hx rfl (hb hby d4_176) rfl ?_
                  show Steps p.tables e below (T1.setTop (mkF m 177 #[.val (.ref ob), .val (.int p1), .val (.int (p1 &&& (255 : Int32))), .unset] [(.int (p1 &&& (255 : Int32)))])) _
                  refine XS.sipush X1.here hx rfl (hb hby d4_177) ?_
                  exact k
                by_cases hc180_141 : (p1 &&& (255 : Int32)) = (240 : Int32)
                · obtain ⟨cq142, q142, q142'⟩ := E_ob.cell
                  obtain ⟨_, _, ⟨T142, L142, k142, n142⟩, -, X142, ⟨Lc142, hQ142, l142, y142, z142⟩, st142⟩ := X1.privateBack hx (y := (⟨"com/example/vestline/vestline/io/Utf8Validator", "expect", "(III)Z"⟩ : MethodName)) hown (mvT hZ (hw _ (List.mem_of_getElem? (i := 28) rfl))) (mvT hZ (hw _ (List.mem_of_getElem? (i := 29) rfl))) (mvT hZ (own_selects_private (hw _ (List.mem_of_getElem? (i := 1) rfl)) (hw _ (List.mem_of_getElem? (i := 30) rfl)) (hw _ (List.mem_of_getElem? (i := 29) rfl)))) (Cond.privateMethod_at (mvP hZ (hw _ (List.mem_of_getElem? (i := 30) rfl)) (args := #[]))) (mvT hZ (hw _ (List.mem_of_getElem? (i := 31) rfl))) (by decide) (backOf (W := 0) (rm7 l Z a0 hw [] ob (3 : Int32) (144 : Int32) (191 : Int32) (.int P) (.int lo) (.int hi) h0 n0 Z0 E_ob F_pending F_lowest F_highest g_ob) hZ (hw _ (List.mem_of_getElem? (i := 31) rfl)) (hw _ (List.mem_of_getElem? (i := 2) rfl)) (by decide) (by decide)) (g := (mkF m 191 #[.val (.ref ob), .val (.int p1), .val (.int (p1 &&& (255 : Int32))), .unset] [(.int (191 : Int32)), (.int (144 : Int32)), (.int (3 : Int32)), (.ref ob)])) rfl (by rw [hml]; rfl) (Steps.refl _) (a := ob) (by rw [e1]; exact q142) q142' (argsL := [(.int (3 : Int32)), (.int (144 : Int32)), (.int (191 : Int32))]) (rest := []) (lenOf pd_1 rfl) rfl (by show 2 * 0 + _ ≤ _; exact Nat.le_of_eq rfl) (hb hby d4_191) (fun _ _ => ⟨rfl, e1, (by decide : 0 + 0 ≤ _), (by decide : 0 + 0 ≤ _)⟩)
                  dsimp only [Pt.U, Pt.locs, Pt.cells, Pt.slots] at X142 l142 y142 z142 st142 hQ142
                  subst l142 y142 z142
                  obtain ⟨rfl, Nq142, Kq142, Eq142, Fp142, Fl142, Fh142⟩ := hQ142
                  have N142 := Fr.app N0 Nq142
                  have Z143 : n0 ≤ T142.heap.size := Nat.le_trans Z0 Kq142.1
                  have K144 : Keep h0 T142.heap [ob] := (Keep.refl h0 [ob]).trans Kq142 (allS (Or.inl (List.mem_of_getElem? (i := 0) rfl)) all0)
                  have pre145 : ∀ t, Steps p.tables e below (T142.setTop (mkF m 252 #[.val (.ref ob), .val (.int p1), .val (.int (p1 &&& (255 : Int32))), .val (.int (1 : Int32))] [(.int (1 : Int32))])) t → Steps p.tables e below (s₁.setTop (entryFrame m #[(.ref ob), (.int p1)] 4)) t := fun t k => by
                    refine pre140 t ?_
                    show Steps p.tables e below (T1.setTop (mkF m 180 #[.val (.ref ob), .val (.int p1), .val (.int (p1 &&& (255 : Int32))), .unset] [(.int (240 : Int32)), (.int (p1 &&& (255 : Int32)))])) _
                    refine XS.icmpNo X1.here hx rfl (hb hby d4_180) rfl (teq hc180_141).2 ?_
                    show Steps p.tables e below (T1.setTop (mkF m 183 #[.val (.ref ob), .val (.int p1), .val (.int (p1 &&& (255 : Int32))), .unset] [])) _
                    refine XS.aloadN X1.here hx rfl (hb hby d4_183) rfl rfl ?_
                    show Steps p.tables e below (T1.setTop (mkF m 184 #[.val (.ref ob), .val (.int p1), .val (.int (p1 &&& (255 : Int32))), .unset] [(.ref ob)])) _
                    refine XS.iconst X1.here hx rfl (hb hby d4_184) ?_
                    show Steps p.tables e below (T1.setTop (mkF m 185 #[.val (.ref ob), .val (.int p1), .val (.int (p1 &&& (255 : Int32))), .unset] [(.int (3 : Int32)), (.ref ob)])) _
                    refine XS.sipush X1.here hx rfl (hb hby d4_185) ?_
                    show Steps p.tables e below (T1.setTop (mkF m 188 #[.val (.ref ob), .val (.int p1), .val (.int (p1 &&& (255 : Int32))), .unset] [(.int (144 : Int32)), (.int (3 : Int32)), (.ref ob)])) _
                    refine XS.sipush X1.here hx rfl (hb hby d4_188) ?_
                    show Steps p.tables e below (T1.setTop (mkF m 191 #[.val (.ref ob), .val (.int p1), .val (.int (p1 &&& (255 : Int32))), .unset] [(.int (191 : Int32)), (.int (144 : Int32)), (.int (3 : Int32)), (.ref ob)])) _
                    refine st142.trans ?_
                    show Steps p.tables e below (T142.setTop (mkF m 194 #[.val (.ref ob), .val (.int p1), .val (.int (p1 &&& (255 : Int32))), .unset] [(.int (1 : Int32))])) _
                    refine XS.istoreN X142.here hx rfl (hb hby d4_194) rfl (l' := #[.val (.ref ob), .val (.int p1), .val (.int (p1 &&& (255 : Int32))), .val (.int (1 : Int32))]) rfl ?_
                    show Steps p.tables e below (T142.setTop (mkF m 195 #[.val (.ref ob), .val (.int p1), .val (.int (p1 &&& (255 : Int32))), .val (.int (1 : Int32))] [])) _
                    refine XS.goto X142.here hx rfl (pc0 := 195) (pc' := 251) rfl (hb hby d4_195) (by decide) (by decide) ?_
                    show Steps p.tables e below (T142.setTop (mkF m 251 #[.val (.ref ob), .val (.int p1), .val (.int (p1 &&& (255 : Int32))), .val (.int (1 : Int32))] [])) _
                    refine XS.iloadN X142.here hx rfl (hb hby d4_251) rfl ?_
                    exact k
                  obtain ⟨fs, hrq, hrun, hended, hW, hsame⟩ := X142.leave (v := some (.int (1 : Int32))) (fun h => by rw [Bd.returns] at h; cases h)
                  refine ⟨_, _, pre145 _ ?_, hrun, hended, _, _, rfl, ?_, ⟨_, rfl⟩, hW, hsame.mono (by decide) (by decide)⟩
                  · show Steps p.tables e below (T142.setTop (mkF m 252 #[.val (.ref ob), .val (.int p1), .val (.int (p1 &&& (255 : Int32))), .val (.int (1 : Int32))] [(.int (1 : Int32))])) _
                    exact retN X142 hx (t := .boolean) Bd.returns (by simp) (hb hby d4_252) hrq
                  · show Q4 Z ob p1 P lo hi h0 n0 _ T142.heap _
                    have hv : own_next P (p1 &&& (255 : Int32)) = (3 : Int32) := ((if_neg hc10_3 : own_next P (p1 &&& (255 : Int32)) = _).trans (own_naF0 hc180_141))
                    exact ⟨⟨_, rfl⟩, N142, K144, Eq142, by rw [hv]; exact Fp142, _, _, Fl142, Fh142⟩
                · have pre146 : ∀ t, Steps p.tables e below (T1.setTop (mkF m 202 #[.val (.ref ob), .val (.int p1), .val (.int (p1 &&& (255 : Int32))), .unset] [(.int (244 : Int32)), (.int (p1 &&& (255 : Int32)))])) t → Steps p.tables e below (s₁.setTop (entryFrame m #[(.ref ob), (.int p1)] 4)) t := fun t k => by
                    refine pre140 t ?_
                    show Steps p.tables e below (T1.setTop (mkF m 180 #[.val (.ref ob), .val (.int p1), .val (.int (p1 &&& (255 : Int32))), .unset] [(.int (240 : Int32)), (.int (p1 &&& (255 : Int32)))])) _
                    refine XS.icmpYes X1.here hx rfl (pc0 := 180) (pc' := 198) rfl (hb hby d4_180) rfl (feq hc180_141).2 (by decide) (by decide) ?_
                    show Steps p.tables e below (T1.setTop (mkF m 198 #[.val (.ref ob), .val (.int p1), .val (.int (p1 &&& (255 : Int32))), .unset] [])) _
                    refine XS.iloadN X1.here hx rfl (hb hby d4_198) rfl ?_
                    show Steps p.tables e below (T1.setTop (mkF m 199 #[.val (.ref ob), .val (.int p1), .val (.int (p1 &&& (255 : Int32))), .unset] [(.int (p1 &&& (255 : Int32)))])) _
                    refine XS.sipush X1.here hx rfl (hb hby d4_199) ?_
                    exact k
                  by_cases hc202_147 : (p1 &&& (255 : Int32)) = (244 : Int32)
                  · obtain ⟨cq148, q148, q148'⟩ := E_ob.cell
                    obtain ⟨_, _, ⟨T148, L148, k148, n148⟩, -, X148, ⟨Lc148, hQ148, l148, y148, z148⟩, st148⟩ := X1.privateBack hx (y := (⟨"com/example/vestline/vestline/io/Utf8Validator", "expect", "(III)Z"⟩ : MethodName)) hown (mvT hZ (hw _ (List.mem_of_getElem? (i := 28) rfl))) (mvT hZ (hw _ (List.mem_of_getElem? (i := 29) rfl))) (mvT hZ (own_selects_private (hw _ (List.mem_of_getElem? (i := 1) rfl)) (hw _ (List.mem_of_getElem? (i := 30) rfl)) (hw _ (List.mem_of_getElem? (i := 29) rfl)))) (Cond.privateMethod_at (mvP hZ (hw _ (List.mem_of_getElem? (i := 30) rfl)) (args := #[]))) (mvT hZ (hw _ (List.mem_of_getElem? (i := 31) rfl))) (by decide) (backOf (W := 0) (rm7 l Z a0 hw [] ob (3 : Int32) (128 : Int32) (143 : Int32) (.int P) (.int lo) (.int hi) h0 n0 Z0 E_ob F_pending F_lowest F_highest g_ob) hZ (hw _ (List.mem_of_getElem? (i := 31) rfl)) (hw _ (List.mem_of_getElem? (i := 2) rfl)) (by decide) (by decide)) (g := (mkF m 213 #[.val (.ref ob), .val (.int p1), .val (.int (p1 &&& (255 : Int32))), .unset] [(.int (143 : Int32)), (.int (128 : Int32)), (.int (3 : Int32)), (.ref ob)])) rfl (by rw [hml]; rfl) (Steps.refl _) (a := ob) (by rw [e1]; exact q148) q148' (argsL := [(.int (3 : Int32)), (.int (128 : Int32)), (.int (143 : Int32))]) (rest := []) (lenOf pd_1 rfl) rfl (by show 2 * 0 + _ ≤ _; exact Nat.le_of_eq rfl) (hb hby d4_213) (fun _ _ => ⟨rfl, e1, (by decide : 0 + 0 ≤ _), (by decide : 0 + 0 ≤ _)⟩)
                    dsimp only [Pt.U, Pt.locs, Pt.cells, Pt.slots] at X148 l148 y148 z148 st148 hQ148
                    subst l148 y148 z148
                    obtain ⟨rfl, Nq148, Kq148, Eq148, Fp148, Fl148, Fh148⟩ := hQ148
                    have N148 := Fr.app N0 Nq148
                    have Z149 : n0 ≤ T148.heap.size := Nat.le_trans Z0 Kq148.1
                    have K150 : Keep h0 T148.heap [ob] := (Keep.refl h0 [ob]).trans Kq148 (allS (Or.inl (List.mem_of_getElem? (i := 0) rfl)) all0)
                    have pre151 : ∀ t, Steps p.tables e below (T148.setTop (mkF m 252 #[.val (.ref ob), .val (.int p1), .val (.int (p1 &&& (255 : Int32))), .val (.int (1 : Int32))] [(.int (1 : Int32))])) t → Steps p.tables e below (s₁.setTop (entryFrame m #[(.ref ob), (.int p1)] 4)) t := fun t k => by
                      refine pre146 t ?_
                      show Steps p.tables e below (T1.setTop (mkF m 202 #[.val (.ref ob), .val (.int p1), .val (.int (p1 &&& (255 : Int32))), .unset] [(.int (244 : Int32)), (.int (p1 &&& (255 : Int32)))])) _
                      refine XS.icmpNo X1.here hx rfl (hb hby d4_202) rfl (teq hc202_147).2 ?_
                      show Steps p.tables e below (T1.setTop (mkF m 205 #[.val (.ref ob), .val (.int p1), .val (.int (p1 &&& (255 : Int32))), .unset] [])) _
                      refine XS.aloadN X1.here hx rfl (hb hby d4_205) rfl rfl ?_
                      show Steps p.tables e below (T1.setTop (mkF m 206 #[.val (.ref ob), .val (.int p1), .val (.int (p1 &&& (255 : Int32))), .unset] [(.ref ob)])) _
                      refine XS.iconst X1.here hx rfl (hb hby d4_206) ?_
                      show Steps p.tables e below (T1.setTop (mkF m 207 #[.val (.ref ob), .val (.int p1), .val (.int (p1 &&& (255 : Int32))), .unset] [(.int (3 : Int32)), (.ref ob)])) _
                      refine XS.sipush X1.here hx rfl (hb hby d4_207) ?_
                      show Steps p.tables e below (T1.setTop (mkF m 210 #[.val (.ref ob), .val (.int p1), .val (.int (p1 &&& (255 : Int32))), .unset] [(.int (128 : Int32)), (.int (3 : Int32)), (.ref ob)])) _
                      refine XS.sipush X1.here hx rfl (hb hby d4_210) ?_
                      show Steps p.tables e below (T1.setTop (mkF m 213 #[.val (.ref ob), .val (.int p1), .val (.int (p1 &&& (255 : Int32))), .unset] [(.int (143 : Int32)), (.int (128 : Int32)), (.int (3 : Int32)), (.ref ob)])) _
                      refine st148.trans ?_
                      show Steps p.tables e below (T148.setTop (mkF m 216 #[.val (.ref ob), .val (.int p1), .val (.int (p1 &&& (255 : Int32))), .unset] [(.int (1 : Int32))])) _
                      refine XS.istoreN X148.here hx rfl (hb hby d4_216) rfl (l' := #[.val (.ref ob), .val (.int p1), .val (.int (p1 &&& (255 : Int32))), .val (.int (1 : Int32))]) rfl ?_
                      show Steps p.tables e below (T148.setTop (mkF m 217 #[.val (.ref ob), .val (.int p1), .val (.int (p1 &&& (255 : Int32))), .val (.int (1 : Int32))] [])) _
                      refine XS.goto X148.here hx rfl (pc0 := 217) (pc' := 251) rfl (hb hby d4_217) (by decide) (by decide) ?_
                      show Steps p.tables e below (T148.setTop (mkF m 251 #[.val (.ref ob), .val (.int p1), .val (.int (p1 &&& (255 : Int32))), .val (.int (1 : Int32))] [])) _
                      refine XS.iloadN X148.here hx rfl (hb hby d4_251) rfl ?_
                      exact k
                    obtain ⟨fs, hrq, hrun, hended, hW, hsame⟩ := X148.leave (v := some (.int (1 : Int32))) (fun h => by rw [Bd.returns] at h; cases h)
                    refine ⟨_, _, pre151 _ ?_, hrun, hended, _, _, rfl, ?_, ⟨_, rfl⟩, hW, hsame.mono (by decide) (by decide)⟩
                    · show Steps p.tables e below (T148.setTop (mkF m 252 #[.val (.ref ob), .val (.int p1), .val (.int (p1 &&& (255 : Int32))), .val (.int (1 : Int32))] [(.int (1 : Int32))])) _
                      exact retN X148 hx (t := .boolean) Bd.returns (by simp) (hb hby d4_252) hrq
                    · show Q4 Z ob p1 P lo hi h0 n0 _ T148.heap _
                      have hv : own_next P (p1 &&& (255 : Int32)) = (3 : Int32) := ((if_neg hc10_3 : own_next P (p1 &&& (255 : Int32)) = _).trans (own_naF4 hc202_147))
                      exact ⟨⟨_, rfl⟩, N148, K150, Eq148, by rw [hv]; exact Fp148, _, _, Fl148, Fh148⟩
                  · have pre152 : ∀ t, Steps p.tables e below (T1.setTop (mkF m 224 #[.val (.ref ob), .val (.int p1), .val (.int (p1 &&& (255 : Int32))), .unset] [(.int (241 : Int32)), (.int (p1 &&& (255 : Int32)))])) t → Steps p.tables e below (s₁.setTop (entryFrame m #[(.ref ob), (.int p1)] 4)) t := fun t k => by
                      refine pre146 t ?_
                      show Steps p.tables e below (T1.setTop (mkF m 202 #[.val (.ref ob), .val (.int p1), .val (.int (p1 &&& (255 : Int32))), .unset] [(.int (244 : Int32)), (.int (p1 &&& (255 : Int32)))])) _
                      refine XS.icmpYes X1.here hx rfl (pc0 := 202) (pc' := 220) rfl (hb hby d4_202) rfl (feq hc202_147).2 (by decide) (by decide) ?_
                      show Steps p.tables e below (T1.setTop (mkF m 220 #[.val (.ref ob), .val (.int p1), .val (.int (p1 &&& (255 : Int32))), .unset] [])) _
                      refine XS.iloadN X1.here hx rfl (hb hby d4_220) rfl ?_
                      show Steps p.tables e below (T1.setTop (mkF m 221 #[.val (.ref ob), .val (.int p1), .val (.int (p1 &&& (255 : Int32))), .unset] [(.int (p1 &&& (255 : Int32)))])) _
                      refine XS.sipush X1.here hx rfl (hb hby d4_221) ?_
                      exact k
                    by_cases hc224_153 : (p1 &&& (255 : Int32)) < (241 : Int32)
                    · have pre154 : ∀ t, Steps p.tables e below (T1.setTop (mkF m 252 #[.val (.ref ob), .val (.int p1), .val (.int (p1 &&& (255 : Int32))), .val (.int (0 : Int32))] [(.int (0 : Int32))])) t → Steps p.tables e below (s₁.setTop (entryFrame m #[(.ref ob), (.int p1)] 4)) t := fun t k => by
                        refine pre152 t ?_
                        show Steps p.tables e below (T1.setTop (mkF m 224 #[.val (.ref ob), .val (.int p1), .val (.int (p1 &&& (255 : Int32))), .unset] [(.int (241 : Int32)), (.int (p1 &&& (255 : Int32)))])) _
                        refine XS.icmpYes X1.here hx rfl (pc0 := 224) (pc' := 249) rfl (hb hby d4_224) rfl (tlt hc224_153).1 (by decide) (by decide) ?_
                        show Steps p.tables e below (T1.setTop (mkF m 249 #[.val (.ref ob), .val (.int p1), .val (.int (p1 &&& (255 : Int32))), .unset] [])) _
                        refine XS.iconst X1.here hx rfl (hb hby d4_249) ?_
                        show Steps p.tables e below (T1.setTop (mkF m 250 #[.val (.ref ob), .val (.int p1), .val (.int (p1 &&& (255 : Int32))), .unset] [(.int (0 : Int32))])) _
                        refine XS.istoreN X1.here hx rfl (hb hby d4_250) rfl (l' := #[.val (.ref ob), .val (.int p1), .val (.int (p1 &&& (255 : Int32))), .val (.int (0 : Int32))]) rfl ?_
                        show Steps p.tables e below (T1.setTop (mkF m 251 #[.val (.ref ob), .val (.int p1), .val (.int (p1 &&& (255 : Int32))), .val (.int (0 : Int32))] [])) _
                        refine XS.iloadN X1.here hx rfl (hb hby d4_251) rfl ?_
                        exact k
                      obtain ⟨fs, hrq, hrun, hended, hW, hsame⟩ := X1.leave (v := some (.int (0 : Int32))) (fun h => by rw [Bd.returns] at h; cases h)
                      refine ⟨_, _, pre154 _ ?_, hrun, hended, _, _, rfl, ?_, ⟨_, rfl⟩, hW, hsame.mono (by decide) (by decide)⟩
                      · show Steps p.tables e below (T1.setTop (mkF m 252 #[.val (.ref ob), .val (.int p1), .val (.int (p1 &&& (255 : Int32))), .val (.int (0 : Int32))] [(.int (0 : Int32))])) _
                        exact retN X1 hx (t := .boolean) Bd.returns (by simp) (hb hby d4_252) hrq
                      · show Q4 Z ob p1 P lo hi h0 n0 _ T1.heap _
                        rw [e1]
                        have hv : own_next P (p1 &&& (255 : Int32)) = P := (((if_neg hc10_3 : own_next P (p1 &&& (255 : Int32)) = _).trans (own_naz (Or.inr hc85_125) hc107_127 hc129_133 (Or.inl hc151_139) hc180_141 hc202_147 (Or.inl hc224_153))).trans (hPz hc10_3).symm)
                        exact ⟨⟨_, rfl⟩, N0, (Keep.refl h0 [ob]), E_ob, by rw [hv]; exact F_pending, _, _, F_lowest, F_highest⟩
                    · have pre155 : ∀ t, Steps p.tables e below (T1.setTop (mkF m 231 #[.val (.ref ob), .val (.int p1), .val (.int (p1 &&& (255 : Int32))), .unset] [(.int (243 : Int32)), (.int (p1 &&& (255 : Int32)))])) t → Steps p.tables e below (s₁.setTop (entryFrame m #[(.ref ob), (.int p1)] 4)) t := fun t k => by
                        refine pre152 t ?_
                        show Steps p.tables e below (T1.setTop (mkF m 224 #[.val (.ref ob), .val (.int p1), .val (.int (p1 &&& (255 : Int32))), .unset] [(.int (241 : Int32)), (.int (p1 &&& (255 : Int32)))])) _
                        refine XS.icmpNo X1.here hx rfl (hb hby d4_224) rfl (flt hc224_153).1 ?_
                        show Steps p.tables e below (T1.setTop (mkF m 227 #[.val (.ref ob), .val (.int p1), .val (.int (p1 &&& (255 : Int32))), .unset] [])) _
                        refine XS.iloadN X1.here hx rfl (hb hby d4_227) rfl ?_
                        show Steps p.tables e below (T1.setTop (mkF m 228 #[.val (.ref ob), .val (.int p1), .val (.int (p1 &&& (255 : Int32))), .unset] [(.int (p1 &&& (255 : Int32)))])) _
                        refine XS.sipush X1.here hx rfl (hb hby d4_228) ?_
                        exact k
                      by_cases hc231_156 : (243 : Int32) < (p1 &&& (255 : Int32))
                      · have pre157 : ∀ t, Steps p.tables e below (T1.setTop (mkF m 252 #[.val (.ref ob), .val (.int p1), .val (.int (p1 &&& (255 : Int32))), .val (.int (0 : Int32))] [(.int (0 : Int32))])) t → Steps p.tables e below (s₁.setTop (entryFrame m #[(.ref ob), (.int p1)] 4)) t := fun t k => by
                          refine pre155 t ?_
                          show Steps p.tables e below (T1.setTop (mkF m 231 #[.val (.ref ob), .val (.int p1), .val (.int (p1 &&& (255 : Int32))), .unset] [(.int (243 : Int32)), (.int (p1 &&& (255 : Int32)))])) _
                          refine XS.icmpYes X1.here hx rfl (pc0 := 231) (pc' := 249) rfl (hb hby d4_231) rfl (tlt hc231_156).2.2.1 (by decide) (by decide) ?_
                          show Steps p.tables e below (T1.setTop (mkF m 249 #[.val (.ref ob), .val (.int p1), .val (.int (p1 &&& (255 : Int32))), .unset] [])) _
                          refine XS.iconst X1.here hx rfl (hb hby d4_249) ?_
                          show Steps p.tables e below (T1.setTop (mkF m 250 #[.val (.ref ob), .val (.int p1), .val (.int (p1 &&& (255 : Int32))), .unset] [(.int (0 : Int32))])) _
                          refine XS.istoreN X1.here hx rfl (hb hby d4_250) rfl (l' := #[.val (.ref ob), .val (.int p1), .val (.int (p1 &&& (255 : Int32))), .val (.int (0 : Int32))]) rfl ?_
                          show Steps p.tables e below (T1.setTop (mkF m 251 #[.val (.ref ob), .val (.int p1), .val (.int (p1 &&& (255 : Int32))), .val (.int (0 : Int32))] [])) _
                          refine XS.iloadN X1.here hx rfl (hb hby d4_251) rfl ?_
                          exact k
                        obtain ⟨fs, hrq, hrun, hended, hW, hsame⟩ := X1.leave (v := some (.int (0 : Int32))) (fun h => by rw [Bd.returns] at h; cases h)
                        refine ⟨_, _, pre157 _ ?_, hrun, hended, _, _, rfl, ?_, ⟨_, rfl⟩, hW, hsame.mono (by decide) (by decide)⟩
                        · show Steps p.tables e below (T1.setTop (mkF m 252 #[.val (.ref ob), .val (.int p1), .val (.int (p1 &&& (255 : Int32))), .val (.int (0 : Int32))] [(.int (0 : Int32))])) _
                          exact retN X1 hx (t := .boolean) Bd.returns (by simp) (hb hby d4_252) hrq
                        · show Q4 Z ob p1 P lo hi h0 n0 _ T1.heap _
                          rw [e1]
                          have hv : own_next P (p1 &&& (255 : Int32)) = P := (((if_neg hc10_3 : own_next P (p1 &&& (255 : Int32)) = _).trans (own_naz (Or.inr hc85_125) hc107_127 hc129_133 (Or.inl hc151_139) hc180_141 hc202_147 (Or.inr hc231_156))).trans (hPz hc10_3).symm)
                          exact ⟨⟨_, rfl⟩, N0, (Keep.refl h0 [ob]), E_ob, by rw [hv]; exact F_pending, _, _, F_lowest, F_highest⟩
                      · obtain ⟨cq158, q158, q158'⟩ := E_ob.cell
                        obtain ⟨_, _, ⟨T158, L158, k158, n158⟩, -, X158, ⟨Lc158, hQ158, l158, y158, z158⟩, st158⟩ := X1.privateBack hx (y := (⟨"com/example/vestline/vestline/io/Utf8Validator", "expect", "(III)Z"⟩ : MethodName)) hown (mvT hZ (hw _ (List.mem_of_getElem? (i := 28) rfl))) (mvT hZ (hw _ (List.mem_of_getElem? (i := 29) rfl))) (mvT hZ (own_selects_private (hw _ (List.mem_of_getElem? (i := 1) rfl)) (hw _ (List.mem_of_getElem? (i := 30) rfl)) (hw _ (List.mem_of_getElem? (i := 29) rfl)))) (Cond.privateMethod_at (mvP hZ (hw _ (List.mem_of_getElem? (i := 30) rfl)) (args := #[]))) (mvT hZ (hw _ (List.mem_of_getElem? (i := 31) rfl))) (by decide) (backOf (W := 0) (rm7 l Z a0 hw [] ob (3 : Int32) (128 : Int32) (191 : Int32) (.int P) (.int lo) (.int hi) h0 n0 Z0 E_ob F_pending F_lowest F_highest g_ob) hZ (hw _ (List.mem_of_getElem? (i := 31) rfl)) (hw _ (List.mem_of_getElem? (i := 2) rfl)) (by decide) (by decide)) (g := (mkF m 242 #[.val (.ref ob), .val (.int p1), .val (.int (p1 &&& (255 : Int32))), .unset] [(.int (191 : Int32)), (.int (128 : Int32)), (.int (3 : Int32)), (.ref ob)])) rfl (by rw [hml]; rfl) (Steps.refl _) (a := ob) (by rw [e1]; exact q158) q158' (argsL := [(.int (3 : Int32)), (.int (128 : Int32)), (.int (191 : Int32))]) (rest := []) (lenOf pd_1 rfl) rfl (by show 2 * 0 + _ ≤ _; exact Nat.le_of_eq rfl) (hb hby d4_242) (fun _ _ => ⟨rfl, e1, (by decide : 0 + 0 ≤ _), (by decide : 0 + 0 ≤ _)⟩)
                        dsimp only [Pt.U, Pt.locs, Pt.cells, Pt.slots] at X158 l158 y158 z158 st158 hQ158
                        subst l158 y158 z158
                        obtain ⟨rfl, Nq158, Kq158, Eq158, Fp158, Fl158, Fh158⟩ := hQ158
                        have N158 := Fr.app N0 Nq158
                        have Z159 : n0 ≤ T158.heap.size := Nat.le_trans Z0 Kq158.1
                        have K160 : Keep h0 T158.heap [ob] := (Keep.refl h0 [ob]).trans Kq158 (allS (Or.inl (List.mem_of_getElem? (i := 0) rfl)) all0)
                        have pre161 : ∀ t, Steps p.tables e below (T158.setTop (mkF m 252 #[.val (.ref ob), .val (.int p1), .val (.int (p1 &&& (255 : Int32))), .val (.int (1 : Int32))] [(.int (1 : Int32))])) t → Steps p.tables e below (s₁.setTop (entryFrame m #[(.ref ob), (.int p1)] 4)) t := fun t k => by
                          refine pre155 t ?_
                          show Steps p.tables e below (T1.setTop (mkF m 231 #[.val (.ref ob), .val (.int p1), .val (.int (p1 &&& (255 : Int32))), .unset] [(.int (243 : Int32)), (.int (p1 &&& (255 : Int32)))])) _
                          refine XS.icmpNo X1.here hx rfl (hb hby d4_231) rfl (flt hc231_156).2.2.1 ?_
                          show Steps p.tables e below (T1.setTop (mkF m 234 #[.val (.ref ob), .val (.int p1), .val (.int (p1 &&& (255 : Int32))), .unset] [])) _
                          refine XS.aloadN X1.here hx rfl (hb hby d4_234) rfl rfl ?_
                          show Steps p.tables e below (T1.setTop (mkF m 235 #[.val (.ref ob), .val (.int p1), .val (.int (p1 &&& (255 : Int32))), .unset] [(.ref ob)])) _
                          refine XS.iconst X1.here hx rfl (hb hby d4_235) ?_
                          show Steps p.tables e below (T1.setTop (mkF m 236 #[.val (.ref ob), .val (.int p1), .val (.int (p1 &&& (255 : Int32))), .unset] [(.int (3 : Int32)), (.ref ob)])) _
                          refine XS.sipush X1.here hx rfl (hb hby d4_236) ?_
                          show Steps p.tables e below (T1.setTop (mkF m 239 #[.val (.ref ob), .val (.int p1), .val (.int (p1 &&& (255 : Int32))), .unset] [(.int (128 : Int32)), (.int (3 : Int32)), (.ref ob)])) _
                          refine XS.sipush X1.here hx rfl (hb hby d4_239) ?_
                          show Steps p.tables e below (T1.setTop (mkF m 242 #[.val (.ref ob), .val (.int p1), .val (.int (p1 &&& (255 : Int32))), .unset] [(.int (191 : Int32)), (.int (128 : Int32)), (.int (3 : Int32)), (.ref ob)])) _
                          refine st158.trans ?_
                          show Steps p.tables e below (T158.setTop (mkF m 245 #[.val (.ref ob), .val (.int p1), .val (.int (p1 &&& (255 : Int32))), .unset] [(.int (1 : Int32))])) _
                          refine XS.istoreN X158.here hx rfl (hb hby d4_245) rfl (l' := #[.val (.ref ob), .val (.int p1), .val (.int (p1 &&& (255 : Int32))), .val (.int (1 : Int32))]) rfl ?_
                          show Steps p.tables e below (T158.setTop (mkF m 246 #[.val (.ref ob), .val (.int p1), .val (.int (p1 &&& (255 : Int32))), .val (.int (1 : Int32))] [])) _
                          refine XS.goto X158.here hx rfl (pc0 := 246) (pc' := 251) rfl (hb hby d4_246) (by decide) (by decide) ?_
                          show Steps p.tables e below (T158.setTop (mkF m 251 #[.val (.ref ob), .val (.int p1), .val (.int (p1 &&& (255 : Int32))), .val (.int (1 : Int32))] [])) _
                          refine XS.iloadN X158.here hx rfl (hb hby d4_251) rfl ?_
                          exact k
                        obtain ⟨fs, hrq, hrun, hended, hW, hsame⟩ := X158.leave (v := some (.int (1 : Int32))) (fun h => by rw [Bd.returns] at h; cases h)
                        refine ⟨_, _, pre161 _ ?_, hrun, hended, _, _, rfl, ?_, ⟨_, rfl⟩, hW, hsame.mono (by decide) (by decide)⟩
                        · show Steps p.tables e below (T158.setTop (mkF m 252 #[.val (.ref ob), .val (.int p1), .val (.int (p1 &&& (255 : Int32))), .val (.int (1 : Int32))] [(.int (1 : Int32))])) _
                          exact retN X158 hx (t := .boolean) Bd.returns (by simp) (hb hby d4_252) hrq
                        · show Q4 Z ob p1 P lo hi h0 n0 _ T158.heap _
                          have hv : own_next P (p1 &&& (255 : Int32)) = (3 : Int32) := ((if_neg hc10_3 : own_next P (p1 &&& (255 : Int32)) = _).trans (own_na3 hc224_153 hc231_156))
                          exact ⟨⟨_, rfl⟩, N158, K160, Eq158, by rw [hv]; exact Fp158, _, _, Fl158, Fh158⟩
              · have pre162 : ∀ t, Steps p.tables e below (T1.setTop (mkF m 158 #[.val (.ref ob), .val (.int p1), .val (.int (p1 &&& (255 : Int32))), .unset] [(.int (239 : Int32)), (.int (p1 &&& (255 : Int32)))])) t → Steps p.tables e below (s₁.setTop (entryFrame m #[(.ref ob), (.int p1)] 4)) t := fun t k => by
                  refine pre138 t ?_
                  show Steps p.tables e below (T1.setTop (mkF m 151 #[.val (.ref ob), .val (.int p1), .val (.int (p1 &&& (255 : Int32))), .unset] [(.int (225 : Int32)), (.int (p1 &&& (255 : Int32)))])) _
                  refine XS.icmpNo X1.here hx rfl (hb hby d4_151) rfl (flt hc151_139).1 ?_
                  show Steps p.tables e below (T1.setTop (mkF m 154 #[.val (.ref ob), .val (.int p1), .val (.int (p1 &&& (255 : Int32))), .unset] [])) _
                  refine XS.iloadN X1.here hx rfl (hb hby d4_154) rfl ?_
                  show Steps p.tables e below (T1.setTop (mkF m 155 #[.val (.ref ob), .val (.int p1), .val (.int (p1 &&& (255 : Int32))), .unset] [(.int (p1 &&& (255 : Int32)))])) _
                  refine XS.sipush X1.here hx rfl (hb hby d4_155) ?_
                  exact k
                by_cases hc158_163 : (239 : Int32) < (p1 &&& (255 : Int32))
                · have pre164 : ∀ t, Steps p.tables e below (T1.setTop (mkF m 180 #[.val (.ref ob), .val (.int p1), .val (.int (p1 &&& (255 : Int32))), .unset] [(.int (240 : Int32)), (.int (p1 &&& (255 : Int32)))])) t → Steps p.tables e below (s₁.setTop (entryFrame m #[(.ref ob), (.int p1)] 4)) t := fun t k => by
                    refine pre162 t ?_
                    show Steps p.tables e below (T1.setTop (mkF m 158 #[.val (.ref ob), .val (.int p1), .val (.int (p1 &&& (255 : Int32))), .unset] [(.int (239 : Int32)), (.int (p1 &&& (255 : Int32)))])) _
                    refine XS.icmpYes X1.here hx rfl (pc0 := 158) (pc' := 176) rfl (hb hby d4_158) rfl (tlt hc158_163).2.2.1 (by decide) (by decide) ?_
                    show Steps p.tables e below (T1.setTop (mkF m 176 #[.val (.ref ob), .val (.int p1), .val (.int (p1 &&& (255 : Int32))), .unset] [])) _
                    refine XS.iloadN X1.here hx rfl (hb hby d4_176) rfl ?_
                    show Steps p.tables e below (T1.setTop (mkF m 177 #[.val (.ref ob), .val (.int p1), .val (.int (p1 &&& (255 : Int32))), .unset] [(.int (p1 &&& (255 : Int32)))])) _
                    refine XS.sipush X1.here hx rfl (hb hby d4_177) ?_
                    exact k
                  by_cases hc180_165 : (p1 &&& (255 : Int32)) = (240 : Int32)
                  · obtain ⟨cq166, q166, q166'⟩ := E_ob.cell
                    obtain ⟨_, _, ⟨T166, L166, k166, n166⟩, -, X166, ⟨Lc166, hQ166, l166, y166, z166⟩, st166⟩ := X1.privateBack hx (y := (⟨"com/example/vestline/vestline/io/Utf8Validator", "expect", "(III)Z"⟩ : MethodName)) hown (mvT hZ (hw _ (List.mem_of_getElem? (i := 28) rfl))) (mvT hZ (hw _ (List.mem_of_getElem? (i := 29) rfl))) (mvT hZ (own_selects_private (hw _ (List.mem_of_getElem? (i := 1) rfl)) (hw _ (List.mem_of_getElem? (i := 30) rfl)) (hw _ (List.mem_of_getElem? (i := 29) rfl)))) (Cond.privateMethod_at (mvP hZ (hw _ (List.mem_of_getElem? (i := 30) rfl)) (args := #[]))) (mvT hZ (hw _ (List.mem_of_getElem? (i := 31) rfl))) (by decide) (backOf (W := 0) (rm7 l Z a0 hw [] ob (3 : Int32) (144 : Int32) (191 : Int32) (.int P) (.int lo) (.int hi) h0 n0 Z0 E_ob F_pending F_lowest F_highest g_ob) hZ (hw _ (List.mem_of_getElem? (i := 31) rfl)) (hw _ (List.mem_of_getElem? (i := 2) rfl)) (by decide) (by decide)) (g := (mkF m 191 #[.val (.ref ob), .val (.int p1), .val (.int (p1 &&& (255 : Int32))), .unset] [(.int (191 : Int32)), (.int (144 : Int32)), (.int (3 : Int32)), (.ref ob)])) rfl (by rw [hml]; rfl) (Steps.refl _) (a := ob) (by rw [e1]; exact q166) q166' (argsL := [(.int (3 : Int32)), (.int (144 : Int32)), (.int (191 : Int32))]) (rest := []) (lenOf pd_1 rfl) rfl (by show 2 * 0 + _ ≤ _; exact Nat.le_of_eq rfl) (hb hby d4_191) (fun _ _ => ⟨rfl, e1, (by decide : 0 + 0 ≤ _), (by decide : 0 + 0 ≤ _)⟩)
                    dsimp only [Pt.U, Pt.locs, Pt.cells, Pt.slots] at X166 l166 y166 z166 st166 hQ166
                    subst l166 y166 z166
                    obtain ⟨rfl, Nq166, Kq166, Eq166, Fp166, Fl166, Fh166⟩ := hQ166
                    have N166 := Fr.app N0 Nq166
                    have Z167 : n0 ≤ T166.heap.size := Nat.le_trans Z0 Kq166.1
                    have K168 : Keep h0 T166.heap [ob] := (Keep.refl h0 [ob]).trans Kq166 (allS (Or.inl (List.mem_of_getElem? (i := 0) rfl)) all0)
                    have pre169 : ∀ t, Steps p.tables e below (T166.setTop (mkF m 252 #[.val (.ref ob), .val (.int p1), .val (.int (p1 &&& (255 : Int32))), .val (.int (1 : Int32))] [(.int (1 : Int32))])) t → Steps p.tables e below (s₁.setTop (entryFrame m #[(.ref ob), (.int p1)] 4)) t := fun t k => by
                      refine pre164 t ?_
                      show Steps p.tables e below (T1.setTop (mkF m 180 #[.val (.ref ob), .val (.int p1), .val (.int (p1 &&& (255 : Int32))), .unset] [(.int (240 : Int32)), (.int (p1 &&& (255 : Int32)))])) _
                      refine XS.icmpNo X1.here hx rfl (hb hby d4_180) rfl (teq hc180_165).2 ?_
                      show Steps p.tables e below (T1.setTop (mkF m 183 #[.val (.ref ob), .val (.int p1), .val (.int (p1 &&& (255 : Int32))), .unset] [])) _
                      refine XS.aloadN X1.here hx rfl (hb hby d4_183) rfl rfl ?_
                      show Steps p.tables e below (T1.setTop (mkF m 184 #[.val (.ref ob), .val (.int p1), .val (.int (p1 &&& (255 : Int32))), .unset] [(.ref ob)])) _
                      refine XS.iconst X1.here hx rfl (hb hby d4_184) ?_
                      show Steps p.tables e below (T1.setTop (mkF m 185 #[.val (.ref ob), .val (.int p1), .val (.int (p1 &&& (255 : Int32))), .unset] [(.int (3 : Int32)), (.ref ob)])) _
                      refine XS.sipush X1.here hx rfl (hb hby d4_185) ?_
                      show Steps p.tables e below (T1.setTop (mkF m 188 #[.val (.ref ob), .val (.int p1), .val (.int (p1 &&& (255 : Int32))), .unset] [(.int (144 : Int32)), (.int (3 : Int32)), (.ref ob)])) _
                      refine XS.sipush X1.here hx rfl (hb hby d4_188) ?_
                      show Steps p.tables e below (T1.setTop (mkF m 191 #[.val (.ref ob), .val (.int p1), .val (.int (p1 &&& (255 : Int32))), .unset] [(.int (191 : Int32)), (.int (144 : Int32)), (.int (3 : Int32)), (.ref ob)])) _
                      refine st166.trans ?_
                      show Steps p.tables e below (T166.setTop (mkF m 194 #[.val (.ref ob), .val (.int p1), .val (.int (p1 &&& (255 : Int32))), .unset] [(.int (1 : Int32))])) _
                      refine XS.istoreN X166.here hx rfl (hb hby d4_194) rfl (l' := #[.val (.ref ob), .val (.int p1), .val (.int (p1 &&& (255 : Int32))), .val (.int (1 : Int32))]) rfl ?_
                      show Steps p.tables e below (T166.setTop (mkF m 195 #[.val (.ref ob), .val (.int p1), .val (.int (p1 &&& (255 : Int32))), .val (.int (1 : Int32))] [])) _
                      refine XS.goto X166.here hx rfl (pc0 := 195) (pc' := 251) rfl (hb hby d4_195) (by decide) (by decide) ?_
                      show Steps p.tables e below (T166.setTop (mkF m 251 #[.val (.ref ob), .val (.int p1), .val (.int (p1 &&& (255 : Int32))), .val (.int (1 : Int32))] [])) _
                      refine XS.iloadN X166.here hx rfl (hb hby d4_251) rfl ?_
                      exact k
                    obtain ⟨fs, hrq, hrun, hended, hW, hsame⟩ := X166.leave (v := some (.int (1 : Int32))) (fun h => by rw [Bd.returns] at h; cases h)
                    refine ⟨_, _, pre169 _ ?_, hrun, hended, _, _, rfl, ?_, ⟨_, rfl⟩, hW, hsame.mono (by decide) (by decide)⟩
                    · show Steps p.tables e below (T166.setTop (mkF m 252 #[.val (.ref ob), .val (.int p1), .val (.int (p1 &&& (255 : Int32))), .val (.int (1 : Int32))] [(.int (1 : Int32))])) _
                      exact retN X166 hx (t := .boolean) Bd.returns (by simp) (hb hby d4_252) hrq
                    · show Q4 Z ob p1 P lo hi h0 n0 _ T166.heap _
                      have hv : own_next P (p1 &&& (255 : Int32)) = (3 : Int32) := ((if_neg hc10_3 : own_next P (p1 &&& (255 : Int32)) = _).trans (own_naF0 hc180_165))
                      exact ⟨⟨_, rfl⟩, N166, K168, Eq166, by rw [hv]; exact Fp166, _, _, Fl166, Fh166⟩
                  · have pre170 : ∀ t, Steps p.tables e below (T1.setTop (mkF m 202 #[.val (.ref ob), .val (.int p1), .val (.int (p1 &&& (255 : Int32))), .unset] [(.int (244 : Int32)), (.int (p1 &&& (255 : Int32)))])) t → Steps p.tables e below (s₁.setTop (entryFrame m #[(.ref ob), (.int p1)] 4)) t := fun t k => by
                      refine pre164 t ?_
                      show Steps p.tables e below (T1.setTop (mkF m 180 #[.val (.ref ob), .val (.int p1), .val (.int (p1 &&& (255 : Int32))), .unset] [(.int (240 : Int32)), (.int (p1 &&& (255 : Int32)))])) _
                      refine XS.icmpYes X1.here hx rfl (pc0 := 180) (pc' := 198) rfl (hb hby d4_180) rfl (feq hc180_165).2 (by decide) (by decide) ?_
                      show Steps p.tables e below (T1.setTop (mkF m 198 #[.val (.ref ob), .val (.int p1), .val (.int (p1 &&& (255 : Int32))), .unset] [])) _
                      refine XS.iloadN X1.here hx rfl (hb hby d4_198) rfl ?_
                      show Steps p.tables e below (T1.setTop (mkF m 199 #[.val (.ref ob), .val (.int p1), .val (.int (p1 &&& (255 : Int32))), .unset] [(.int (p1 &&& (255 : Int32)))])) _
                      refine XS.sipush X1.here hx rfl (hb hby d4_199) ?_
                      exact k
                    by_cases hc202_171 : (p1 &&& (255 : Int32)) = (244 : Int32)
                    · obtain ⟨cq172, q172, q172'⟩ := E_ob.cell
                      obtain ⟨_, _, ⟨T172, L172, k172, n172⟩, -, X172, ⟨Lc172, hQ172, l172, y172, z172⟩, st172⟩ := X1.privateBack hx (y := (⟨"com/example/vestline/vestline/io/Utf8Validator", "expect", "(III)Z"⟩ : MethodName)) hown (mvT hZ (hw _ (List.mem_of_getElem? (i := 28) rfl))) (mvT hZ (hw _ (List.mem_of_getElem? (i := 29) rfl))) (mvT hZ (own_selects_private (hw _ (List.mem_of_getElem? (i := 1) rfl)) (hw _ (List.mem_of_getElem? (i := 30) rfl)) (hw _ (List.mem_of_getElem? (i := 29) rfl)))) (Cond.privateMethod_at (mvP hZ (hw _ (List.mem_of_getElem? (i := 30) rfl)) (args := #[]))) (mvT hZ (hw _ (List.mem_of_getElem? (i := 31) rfl))) (by decide) (backOf (W := 0) (rm7 l Z a0 hw [] ob (3 : Int32) (128 : Int32) (143 : Int32) (.int P) (.int lo) (.int hi) h0 n0 Z0 E_ob F_pending F_lowest F_highest g_ob) hZ (hw _ (List.mem_of_getElem? (i := 31) rfl)) (hw _ (List.mem_of_getElem? (i := 2) rfl)) (by decide) (by decide)) (g := (mkF m 213 #[.val (.ref ob), .val (.int p1), .val (.int (p1 &&& (255 : Int32))), .unset] [(.int (143 : Int32)), (.int (128 : Int32)), (.int (3 : Int32)), (.ref ob)])) rfl (by rw [hml]; rfl) (Steps.refl _) (a := ob) (by rw [e1]; exact q172) q172' (argsL := [(.int (3 : Int32)), (.int (128 : Int32)), (.int (143 : Int32))]) (rest := []) (lenOf pd_1 rfl) rfl (by show 2 * 0 + _ ≤ _; exact Nat.le_of_eq rfl) (hb hby d4_213) (fun _ _ => ⟨rfl, e1, (by decide : 0 + 0 ≤ _), (by decide : 0 + 0 ≤ _)⟩)
                      dsimp only [Pt.U, Pt.locs, Pt.cells, Pt.slots] at X172 l172 y172 z172 st172 hQ172
                      subst l172 y172 z172
                      obtain ⟨rfl, Nq172, Kq172, Eq172, Fp172, Fl172, Fh172⟩ := hQ172
                      have N172 := Fr.app N0 Nq172
                      have Z173 : n0 ≤ T172.heap.size := Nat.le_trans Z0 Kq172.1
                      have K174 : Keep h0 T172.heap [ob] := (Keep.refl h0 [ob]).trans Kq172 (allS (Or.inl (List.mem_of_getElem? (i := 0) rfl)) all0)
                      have pre175 : ∀ t, Steps p.tables e below (T172.setTop (mkF m 252 #[.val (.ref ob), .val (.int p1), .val (.int (p1 &&& (255 : Int32))), .val (.int (1 : Int32))] [(.int (1 : Int32))])) t → Steps p.tables e below (s₁.setTop (entryFrame m #[(.ref ob), (.int p1)] 4)) t := fun t k => by
                        refine pre170 t ?_
                        show Steps p.tables e below (T1.setTop (mkF m 202 #[.val (.ref ob), .val (.int p1), .val (.int (p1 &&& (255 : Int32))), .unset] [(.int (244 : Int32)), (.int (p1 &&& (255 : Int32)))])) _
                        refine XS.icmpNo X1.here hx rfl (hb hby d4_202) rfl (teq hc202_171).2 ?_
                        show Steps p.tables e below (T1.setTop (mkF m 205 #[.val (.ref ob), .val (.int p1), .val (.int (p1 &&& (255 : Int32))), .unset] [])) _
                        refine XS.aloadN X1.here hx rfl (hb hby d4_205) rfl rfl ?_
                        show Steps p.tables e below (T1.setTop (mkF m 206 #[.val (.ref ob), .val (.int p1), .val (.int (p1 &&& (255 : Int32))), .unset] [(.ref ob)])) _
                        refine XS.iconst X1.here hx rfl (hb hby d4_206) ?_
                        show Steps p.tables e below (T1.setTop (mkF m 207 #[.val (.ref ob), .val (.int p1), .val (.int (p1 &&& (255 : Int32))), .unset] [(.int (3 : Int32)), (.ref ob)])) _
                        refine XS.sipush X1.here hx rfl (hb hby d4_207) ?_
                        show Steps p.tables e below (T1.setTop (mkF m 210 #[.val (.ref ob), .val (.int p1), .val (.int (p1 &&& (255 : Int32))), .unset] [(.int (128 : Int32)), (.int (3 : Int32)), (.ref ob)])) _
                        refine XS.sipush X1.here hx rfl (hb hby d4_210) ?_
                        show Steps p.tables e below (T1.setTop (mkF m 213 #[.val (.ref ob), .val (.int p1), .val (.int (p1 &&& (255 : Int32))), .unset] [(.int (143 : Int32)), (.int (128 : Int32)), (.int (3 : Int32)), (.ref ob)])) _
                        refine st172.trans ?_
                        show Steps p.tables e below (T172.setTop (mkF m 216 #[.val (.ref ob), .val (.int p1), .val (.int (p1 &&& (255 : Int32))), .unset] [(.int (1 : Int32))])) _
                        refine XS.istoreN X172.here hx rfl (hb hby d4_216) rfl (l' := #[.val (.ref ob), .val (.int p1), .val (.int (p1 &&& (255 : Int32))), .val (.int (1 : Int32))]) rfl ?_
                        show Steps p.tables e below (T172.setTop (mkF m 217 #[.val (.ref ob), .val (.int p1), .val (.int (p1 &&& (255 : Int32))), .val (.int (1 : Int32))] [])) _
                        refine XS.goto X172.here hx rfl (pc0 := 217) (pc' := 251) rfl (hb hby d4_217) (by decide) (by decide) ?_
                        show Steps p.tables e below (T172.setTop (mkF m 251 #[.val (.ref ob), .val (.int p1), .val (.int (p1 &&& (255 : Int32))), .val (.int (1 : Int32))] [])) _
                        refine XS.iloadN X172.here hx rfl (hb hby d4_251) rfl ?_
                        exact k
                      obtain ⟨fs, hrq, hrun, hended, hW, hsame⟩ := X172.leave (v := some (.int (1 : Int32))) (fun h => by rw [Bd.returns] at h; cases h)
                      refine ⟨_, _, pre175 _ ?_, hrun, hended, _, _, rfl, ?_, ⟨_, rfl⟩, hW, hsame.mono (by decide) (by decide)⟩
                      · show Steps p.tables e below (T172.setTop (mkF m 252 #[.val (.ref ob), .val (.int p1), .val (.int (p1 &&& (255 : Int32))), .val (.int (1 : Int32))] [(.int (1 : Int32))])) _
                        exact retN X172 hx (t := .boolean) Bd.returns (by simp) (hb hby d4_252) hrq
                      · show Q4 Z ob p1 P lo hi h0 n0 _ T172.heap _
                        have hv : own_next P (p1 &&& (255 : Int32)) = (3 : Int32) := ((if_neg hc10_3 : own_next P (p1 &&& (255 : Int32)) = _).trans (own_naF4 hc202_171))
                        exact ⟨⟨_, rfl⟩, N172, K174, Eq172, by rw [hv]; exact Fp172, _, _, Fl172, Fh172⟩
                    · have pre176 : ∀ t, Steps p.tables e below (T1.setTop (mkF m 224 #[.val (.ref ob), .val (.int p1), .val (.int (p1 &&& (255 : Int32))), .unset] [(.int (241 : Int32)), (.int (p1 &&& (255 : Int32)))])) t → Steps p.tables e below (s₁.setTop (entryFrame m #[(.ref ob), (.int p1)] 4)) t := fun t k => by
                        refine pre170 t ?_
                        show Steps p.tables e below (T1.setTop (mkF m 202 #[.val (.ref ob), .val (.int p1), .val (.int (p1 &&& (255 : Int32))), .unset] [(.int (244 : Int32)), (.int (p1 &&& (255 : Int32)))])) _
                        refine XS.icmpYes X1.here hx rfl (pc0 := 202) (pc' := 220) rfl (hb hby d4_202) rfl (feq hc202_171).2 (by decide) (by decide) ?_
                        show Steps p.tables e below (T1.setTop (mkF m 220 #[.val (.ref ob), .val (.int p1), .val (.int (p1 &&& (255 : Int32))), .unset] [])) _
                        refine XS.iloadN X1.here hx rfl (hb hby d4_220) rfl ?_
                        show Steps p.tables e below (T1.setTop (mkF m 221 #[.val (.ref ob), .val (.int p1), .val (.int (p1 &&& (255 : Int32))), .unset] [(.int (p1 &&& (255 : Int32)))])) _
                        refine XS.sipush X1.here hx rfl (hb hby d4_221) ?_
                        exact k
                      by_cases hc224_177 : (p1 &&& (255 : Int32)) < (241 : Int32)
                      · have pre178 : ∀ t, Steps p.tables e below (T1.setTop (mkF m 252 #[.val (.ref ob), .val (.int p1), .val (.int (p1 &&& (255 : Int32))), .val (.int (0 : Int32))] [(.int (0 : Int32))])) t → Steps p.tables e below (s₁.setTop (entryFrame m #[(.ref ob), (.int p1)] 4)) t := fun t k => by
                          refine pre176 t ?_
                          show Steps p.tables e below (T1.setTop (mkF m 224 #[.val (.ref ob), .val (.int p1), .val (.int (p1 &&& (255 : Int32))), .unset] [(.int (241 : Int32)), (.int (p1 &&& (255 : Int32)))])) _
                          refine XS.icmpYes X1.here hx rfl (pc0 := 224) (pc' := 249) rfl (hb hby d4_224) rfl (tlt hc224_177).1 (by decide) (by decide) ?_
                          show Steps p.tables e below (T1.setTop (mkF m 249 #[.val (.ref ob), .val (.int p1), .val (.int (p1 &&& (255 : Int32))), .unset] [])) _
                          refine XS.iconst X1.here hx rfl (hb hby d4_249) ?_
                          show Steps p.tables e below (T1.setTop (mkF m 250 #[.val (.ref ob), .val (.int p1), .val (.int (p1 &&& (255 : Int32))), .unset] [(.int (0 : Int32))])) _
                          refine XS.istoreN X1.here hx rfl (hb hby d4_250) rfl (l' := #[.val (.ref ob), .val (.int p1), .val (.int (p1 &&& (255 : Int32))), .val (.int (0 : Int32))]) rfl ?_
                          show Steps p.tables e below (T1.setTop (mkF m 251 #[.val (.ref ob), .val (.int p1), .val (.int (p1 &&& (255 : Int32))), .val (.int (0 : Int32))] [])) _
                          refine XS.iloadN X1.here hx rfl (hb hby d4_251) rfl ?_
                          exact k
                        obtain ⟨fs, hrq, hrun, hended, hW, hsame⟩ := X1.leave (v := some (.int (0 : Int32))) (fun h => by rw [Bd.returns] at h; cases h)
                        refine ⟨_, _, pre178 _ ?_, hrun, hended, _, _, rfl, ?_, ⟨_, rfl⟩, hW, hsame.mono (by decide) (by decide)⟩
                        · show Steps p.tables e below (T1.setTop (mkF m 252 #[.val (.ref ob), .val (.int p1), .val (.int (p1 &&& (255 : Int32))), .val (.int (0 : Int32))] [(.int (0 : Int32))])) _
                          exact retN X1 hx (t := .boolean) Bd.returns (by simp) (hb hby d4_252) hrq
                        · show Q4 Z ob p1 P lo hi h0 n0 _ T1.heap _
                          rw [e1]
                          have hv : own_next P (p1 &&& (255 : Int32)) = P := (((if_neg hc10_3 : own_next P (p1 &&& (255 : Int32)) = _).trans (own_naz (Or.inr hc85_125) hc107_127 hc129_133 (Or.inr hc158_163) hc180_165 hc202_171 (Or.inl hc224_177))).trans (hPz hc10_3).symm)
                          exact ⟨⟨_, rfl⟩, N0, (Keep.refl h0 [ob]), E_ob, by rw [hv]; exact F_pending, _, _, F_lowest, F_highest⟩
                      · have pre179 : ∀ t, Steps p.tables e below (T1.setTop (mkF m 231 #[.val (.ref ob), .val (.int p1), .val (.int (p1 &&& (255 : Int32))), .unset] [(.int (243 : Int32)), (.int (p1 &&& (255 : Int32)))])) t → Steps p.tables e below (s₁.setTop (entryFrame m #[(.ref ob), (.int p1)] 4)) t := fun t k => by
                          refine pre176 t ?_
                          show Steps p.tables e below (T1.setTop (mkF m 224 #[.val (.ref ob), .val (.int p1), .val (.int (p1 &&& (255 : Int32))), .unset] [(.int (241 : Int32)), (.int (p1 &&& (255 : Int32)))])) _
                          refine XS.icmpNo X1.here hx rfl (hb hby d4_224) rfl (flt hc224_177).1 ?_
                          show Steps p.tables e below (T1.setTop (mkF m 227 #[.val (.ref ob), .val (.int p1), .val (.int (p1 &&& (255 : Int32))), .unset] [])) _
                          refine XS.iloadN X1.here hx rfl (hb hby d4_227) rfl ?_
                          show Steps p.tables e below (T1.setTop (mkF m 228 #[.val (.ref ob), .val (.int p1), .val (.int (p1 &&& (255 : Int32))), .unset] [(.int (p1 &&& (255 : Int32)))])) _
                          refine XS.sipush X1.here hx rfl (hb hby d4_228) ?_
                          exact k
                        by_cases hc231_180 : (243 : Int32) < (p1 &&& (255 : Int32))
                        · have pre181 : ∀ t, Steps p.tables e below (T1.setTop (mkF m 252 #[.val (.ref ob), .val (.int p1), .val (.int (p1 &&& (255 : Int32))), .val (.int (0 : Int32))] [(.int (0 : Int32))])) t → Steps p.tables e below (s₁.setTop (entryFrame m #[(.ref ob), (.int p1)] 4)) t := fun t k => by
                            refine pre179 t ?_
                            show Steps p.tables e below (T1.setTop (mkF m 231 #[.val (.ref ob), .val (.int p1), .val (.int (p1 &&& (255 : Int32))), .unset] [(.int (243 : Int32)), (.int (p1 &&& (255 : Int32)))])) _
                            refine XS.icmpYes X1.here hx rfl (pc0 := 231) (pc' := 249) rfl (hb hby d4_231) rfl (tlt hc231_180).2.2.1 (by decide) (by decide) ?_
                            show Steps p.tables e below (T1.setTop (mkF m 249 #[.val (.ref ob), .val (.int p1), .val (.int (p1 &&& (255 : Int32))), .unset] [])) _
                            refine XS.iconst X1.here hx rfl (hb hby d4_249) ?_
                            show Steps p.tables e below (T1.setTop (mkF m 250 #[.val (.ref ob), .val (.int p1), .val (.int (p1 &&& (255 : Int32))), .unset] [(.int (0 : Int32))])) _
                            refine XS.istoreN X1.here hx rfl (hb hby d4_250) rfl (l' := #[.val (.ref ob), .val (.int p1), .val (.int (p1 &&& (255 : Int32))), .val (.int (0 : Int32))]) rfl ?_
                            show Steps p.tables e below (T1.setTop (mkF m 251 #[.val (.ref ob), .val (.int p1), .val (.int (p1 &&& (255 : Int32))), .val (.int (0 : Int32))] [])) _
                            refine XS.iloadN X1.here hx rfl (hb hby d4_251) rfl ?_
                            exact k
                          obtain ⟨fs, hrq, hrun, hended, hW, hsame⟩ := X1.leave (v := some (.int (0 : Int32))) (fun h => by rw [Bd.returns] at h; cases h)
                          refine ⟨_, _, pre181 _ ?_, hrun, hended, _, _, rfl, ?_, ⟨_, rfl⟩, hW, hsame.mono (by decide) (by decide)⟩
                          · show Steps p.tables e below (T1.setTop (mkF m 252 #[.val (.ref ob), .val (.int p1), .val (.int (p1 &&& (255 : Int32))), .val (.int (0 : Int32))] [(.int (0 : Int32))])) _
                            exact retN X1 hx (t := .boolean) Bd.returns (by simp) (hb hby d4_252) hrq
                          · show Q4 Z ob p1 P lo hi h0 n0 _ T1.heap _
                            rw [e1]
                            have hv : own_next P (p1 &&& (255 : Int32)) = P := (((if_neg hc10_3 : own_next P (p1 &&& (255 : Int32)) = _).trans (own_naz (Or.inr hc85_125) hc107_127 hc129_133 (Or.inr hc158_163) hc180_165 hc202_171 (Or.inr hc231_180))).trans (hPz hc10_3).symm)
                            exact ⟨⟨_, rfl⟩, N0, (Keep.refl h0 [ob]), E_ob, by rw [hv]; exact F_pending, _, _, F_lowest, F_highest⟩
                        · obtain ⟨cq182, q182, q182'⟩ := E_ob.cell
                          obtain ⟨_, _, ⟨T182, L182, k182, n182⟩, -, X182, ⟨Lc182, hQ182, l182, y182, z182⟩, st182⟩ := X1.privateBack hx (y := (⟨"com/example/vestline/vestline/io/Utf8Validator", "expect", "(III)Z"⟩ : MethodName)) hown (mvT hZ (hw _ (List.mem_of_getElem? (i := 28) rfl))) (mvT hZ (hw _ (List.mem_of_getElem? (i := 29) rfl))) (mvT hZ (own_selects_private (hw _ (List.mem_of_getElem? (i := 1) rfl)) (hw _ (List.mem_of_getElem? (i := 30) rfl)) (hw _ (List.mem_of_getElem? (i := 29) rfl)))) (Cond.privateMethod_at (mvP hZ (hw _ (List.mem_of_getElem? (i := 30) rfl)) (args := #[]))) (mvT hZ (hw _ (List.mem_of_getElem? (i := 31) rfl))) (by decide) (backOf (W := 0) (rm7 l Z a0 hw [] ob (3 : Int32) (128 : Int32) (191 : Int32) (.int P) (.int lo) (.int hi) h0 n0 Z0 E_ob F_pending F_lowest F_highest g_ob) hZ (hw _ (List.mem_of_getElem? (i := 31) rfl)) (hw _ (List.mem_of_getElem? (i := 2) rfl)) (by decide) (by decide)) (g := (mkF m 242 #[.val (.ref ob), .val (.int p1), .val (.int (p1 &&& (255 : Int32))), .unset] [(.int (191 : Int32)), (.int (128 : Int32)), (.int (3 : Int32)), (.ref ob)])) rfl (by rw [hml]; rfl) (Steps.refl _) (a := ob) (by rw [e1]; exact q182) q182' (argsL := [(.int (3 : Int32)), (.int (128 : Int32)), (.int (191 : Int32))]) (rest := []) (lenOf pd_1 rfl) rfl (by show 2 * 0 + _ ≤ _; exact Nat.le_of_eq rfl) (hb hby d4_242) (fun _ _ => ⟨rfl, e1, (by decide : 0 + 0 ≤ _), (by decide : 0 + 0 ≤ _)⟩)
                          dsimp only [Pt.U, Pt.locs, Pt.cells, Pt.slots] at X182 l182 y182 z182 st182 hQ182
                          subst l182 y182 z182
                          obtain ⟨rfl, Nq182, Kq182, Eq182, Fp182, Fl182, Fh182⟩ := hQ182
                          have N182 := Fr.app N0 Nq182
                          have Z183 : n0 ≤ T182.heap.size := Nat.le_trans Z0 Kq182.1
                          have K184 : Keep h0 T182.heap [ob] := (Keep.refl h0 [ob]).trans Kq182 (allS (Or.inl (List.mem_of_getElem? (i := 0) rfl)) all0)
                          have pre185 : ∀ t, Steps p.tables e below (T182.setTop (mkF m 252 #[.val (.ref ob), .val (.int p1), .val (.int (p1 &&& (255 : Int32))), .val (.int (1 : Int32))] [(.int (1 : Int32))])) t → Steps p.tables e below (s₁.setTop (entryFrame m #[(.ref ob), (.int p1)] 4)) t := fun t k => by
                            refine pre179 t ?_
                            show Steps p.tables e below (T1.setTop (mkF m 231 #[.val (.ref ob), .val (.int p1), .val (.int (p1 &&& (255 : Int32))), .unset] [(.int (243 : Int32)), (.int (p1 &&& (255 : Int32)))])) _
                            refine XS.icmpNo X1.here hx rfl (hb hby d4_231) rfl (flt hc231_180).2.2.1 ?_
                            show Steps p.tables e below (T1.setTop (mkF m 234 #[.val (.ref ob), .val (.int p1), .val (.int (p1 &&& (255 : Int32))), .unset] [])) _
                            refine XS.aloadN X1.here hx rfl (hb hby d4_234) rfl rfl ?_
                            show Steps p.tables e below (T1.setTop (mkF m 235 #[.val (.ref ob), .val (.int p1), .val (.int (p1 &&& (255 : Int32))), .unset] [(.ref ob)])) _
                            refine XS.iconst X1.here hx rfl (hb hby d4_235) ?_
                            show Steps p.tables e below (T1.setTop (mkF m 236 #[.val (.ref ob), .val (.int p1), .val (.int (p1 &&& (255 : Int32))), .unset] [(.int (3 : Int32)), (.ref ob)])) _
                            refine XS.sipush X1.here hx rfl (hb hby d4_236) ?_
                            show Steps p.tables e below (T1.setTop (mkF m 239 #[.val (.ref ob), .val (.int p1), .val (.int (p1 &&& (255 : Int32))), .unset] [(.int (128 : Int32)), (.int (3 : Int32)), (.ref ob)])) _
                            refine XS.sipush X1.here hx rfl (hb hby d4_239) ?_
                            show Steps p.tables e below (T1.setTop (mkF m 242 #[.val (.ref ob), .val (.int p1), .val (.int (p1 &&& (255 : Int32))), .unset] [(.int (191 : Int32)), (.int (128 : Int32)), (.int (3 : Int32)), (.ref ob)])) _
                            refine st182.trans ?_
                            show Steps p.tables e below (T182.setTop (mkF m 245 #[.val (.ref ob), .val (.int p1), .val (.int (p1 &&& (255 : Int32))), .unset] [(.int (1 : Int32))])) _
                            refine XS.istoreN X182.here hx rfl (hb hby d4_245) rfl (l' := #[.val (.ref ob), .val (.int p1), .val (.int (p1 &&& (255 : Int32))), .val (.int (1 : Int32))]) rfl ?_
                            show Steps p.tables e below (T182.setTop (mkF m 246 #[.val (.ref ob), .val (.int p1), .val (.int (p1 &&& (255 : Int32))), .val (.int (1 : Int32))] [])) _
                            refine XS.goto X182.here hx rfl (pc0 := 246) (pc' := 251) rfl (hb hby d4_246) (by decide) (by decide) ?_
                            show Steps p.tables e below (T182.setTop (mkF m 251 #[.val (.ref ob), .val (.int p1), .val (.int (p1 &&& (255 : Int32))), .val (.int (1 : Int32))] [])) _
                            refine XS.iloadN X182.here hx rfl (hb hby d4_251) rfl ?_
                            exact k
                          obtain ⟨fs, hrq, hrun, hended, hW, hsame⟩ := X182.leave (v := some (.int (1 : Int32))) (fun h => by rw [Bd.returns] at h; cases h)
                          refine ⟨_, _, pre185 _ ?_, hrun, hended, _, _, rfl, ?_, ⟨_, rfl⟩, hW, hsame.mono (by decide) (by decide)⟩
                          · show Steps p.tables e below (T182.setTop (mkF m 252 #[.val (.ref ob), .val (.int p1), .val (.int (p1 &&& (255 : Int32))), .val (.int (1 : Int32))] [(.int (1 : Int32))])) _
                            exact retN X182 hx (t := .boolean) Bd.returns (by simp) (hb hby d4_252) hrq
                          · show Q4 Z ob p1 P lo hi h0 n0 _ T182.heap _
                            have hv : own_next P (p1 &&& (255 : Int32)) = (3 : Int32) := ((if_neg hc10_3 : own_next P (p1 &&& (255 : Int32)) = _).trans (own_na3 hc224_177 hc231_180))
                            exact ⟨⟨_, rfl⟩, N182, K184, Eq182, by rw [hv]; exact Fp182, _, _, Fl182, Fh182⟩
                · obtain ⟨cq186, q186, q186'⟩ := E_ob.cell
                  obtain ⟨_, _, ⟨T186, L186, k186, n186⟩, -, X186, ⟨Lc186, hQ186, l186, y186, z186⟩, st186⟩ := X1.privateBack hx (y := (⟨"com/example/vestline/vestline/io/Utf8Validator", "expect", "(III)Z"⟩ : MethodName)) hown (mvT hZ (hw _ (List.mem_of_getElem? (i := 28) rfl))) (mvT hZ (hw _ (List.mem_of_getElem? (i := 29) rfl))) (mvT hZ (own_selects_private (hw _ (List.mem_of_getElem? (i := 1) rfl)) (hw _ (List.mem_of_getElem? (i := 30) rfl)) (hw _ (List.mem_of_getElem? (i := 29) rfl)))) (Cond.privateMethod_at (mvP hZ (hw _ (List.mem_of_getElem? (i := 30) rfl)) (args := #[]))) (mvT hZ (hw _ (List.mem_of_getElem? (i := 31) rfl))) (by decide) (backOf (W := 0) (rm7 l Z a0 hw [] ob (2 : Int32) (128 : Int32) (191 : Int32) (.int P) (.int lo) (.int hi) h0 n0 Z0 E_ob F_pending F_lowest F_highest g_ob) hZ (hw _ (List.mem_of_getElem? (i := 31) rfl)) (hw _ (List.mem_of_getElem? (i := 2) rfl)) (by decide) (by decide)) (g := (mkF m 169 #[.val (.ref ob), .val (.int p1), .val (.int (p1 &&& (255 : Int32))), .unset] [(.int (191 : Int32)), (.int (128 : Int32)), (.int (2 : Int32)), (.ref ob)])) rfl (by rw [hml]; rfl) (Steps.refl _) (a := ob) (by rw [e1]; exact q186) q186' (argsL := [(.int (2 : Int32)), (.int (128 : Int32)), (.int (191 : Int32))]) (rest := []) (lenOf pd_1 rfl) rfl (by show 2 * 0 + _ ≤ _; exact Nat.le_of_eq rfl) (hb hby d4_169) (fun _ _ => ⟨rfl, e1, (by decide : 0 + 0 ≤ _), (by decide : 0 + 0 ≤ _)⟩)
                  dsimp only [Pt.U, Pt.locs, Pt.cells, Pt.slots] at X186 l186 y186 z186 st186 hQ186
                  subst l186 y186 z186
                  obtain ⟨rfl, Nq186, Kq186, Eq186, Fp186, Fl186, Fh186⟩ := hQ186
                  have N186 := Fr.app N0 Nq186
                  have Z187 : n0 ≤ T186.heap.size := Nat.le_trans Z0 Kq186.1
                  have K188 : Keep h0 T186.heap [ob] := (Keep.refl h0 [ob]).trans Kq186 (allS (Or.inl (List.mem_of_getElem? (i := 0) rfl)) all0)
                  have pre189 : ∀ t, Steps p.tables e below (T186.setTop (mkF m 252 #[.val (.ref ob), .val (.int p1), .val (.int (p1 &&& (255 : Int32))), .val (.int (1 : Int32))] [(.int (1 : Int32))])) t → Steps p.tables e below (s₁.setTop (entryFrame m #[(.ref ob), (.int p1)] 4)) t := fun t k => by
                    refine pre162 t ?_
                    show Steps p.tables e below (T1.setTop (mkF m 158 #[.val (.ref ob), .val (.int p1), .val (.int (p1 &&& (255 : Int32))), .unset] [(.int (239 : Int32)), (.int (p1 &&& (255 : Int32)))])) _
                    refine XS.icmpNo X1.here hx rfl (hb hby d4_158) rfl (flt hc158_163).2.2.1 ?_
                    show Steps p.tables e below (T1.setTop (mkF m 161 #[.val (.ref ob), .val (.int p1), .val (.int (p1 &&& (255 : Int32))), .unset] [])) _
                    refine XS.aloadN X1.here hx rfl (hb hby d4_161) rfl rfl ?_
                    show Steps p.tables e below (T1.setTop (mkF m 162 #[.val (.ref ob), .val (.int p1), .val (.int (p1 &&& (255 : Int32))), .unset] [(.ref ob)])) _
                    refine XS.iconst X1.here hx rfl (hb hby d4_162) ?_
                    show Steps p.tables e below (T1.setTop (mkF m 163 #[.val (.ref ob), .val (.int p1), .val (.int (p1 &&& (255 : Int32))), .unset] [(.int (2 : Int32)), (.ref ob)])) _
                    refine XS.sipush X1.here hx rfl (hb hby d4_163) ?_
                    show Steps p.tables e below (T1.setTop (mkF m 166 #[.val (.ref ob), .val (.int p1), .val (.int (p1 &&& (255 : Int32))), .unset] [(.int (128 : Int32)), (.int (2 : Int32)), (.ref ob)])) _
                    refine XS.sipush X1.here hx rfl (hb hby d4_166) ?_
                    show Steps p.tables e below (T1.setTop (mkF m 169 #[.val (.ref ob), .val (.int p1), .val (.int (p1 &&& (255 : Int32))), .unset] [(.int (191 : Int32)), (.int (128 : Int32)), (.int (2 : Int32)), (.ref ob)])) _
                    refine st186.trans ?_
                    show Steps p.tables e below (T186.setTop (mkF m 172 #[.val (.ref ob), .val (.int p1), .val (.int (p1 &&& (255 : Int32))), .unset] [(.int (1 : Int32))])) _
                    refine XS.istoreN X186.here hx rfl (hb hby d4_172) rfl (l' := #[.val (.ref ob), .val (.int p1), .val (.int (p1 &&& (255 : Int32))), .val (.int (1 : Int32))]) rfl ?_
                    show Steps p.tables e below (T186.setTop (mkF m 173 #[.val (.ref ob), .val (.int p1), .val (.int (p1 &&& (255 : Int32))), .val (.int (1 : Int32))] [])) _
                    refine XS.goto X186.here hx rfl (pc0 := 173) (pc' := 251) rfl (hb hby d4_173) (by decide) (by decide) ?_
                    show Steps p.tables e below (T186.setTop (mkF m 251 #[.val (.ref ob), .val (.int p1), .val (.int (p1 &&& (255 : Int32))), .val (.int (1 : Int32))] [])) _
                    refine XS.iloadN X186.here hx rfl (hb hby d4_251) rfl ?_
                    exact k
                  obtain ⟨fs, hrq, hrun, hended, hW, hsame⟩ := X186.leave (v := some (.int (1 : Int32))) (fun h => by rw [Bd.returns] at h; cases h)
                  refine ⟨_, _, pre189 _ ?_, hrun, hended, _, _, rfl, ?_, ⟨_, rfl⟩, hW, hsame.mono (by decide) (by decide)⟩
                  · show Steps p.tables e below (T186.setTop (mkF m 252 #[.val (.ref ob), .val (.int p1), .val (.int (p1 &&& (255 : Int32))), .val (.int (1 : Int32))] [(.int (1 : Int32))])) _
                    exact retN X186 hx (t := .boolean) Bd.returns (by simp) (hb hby d4_252) hrq
                  · show Q4 Z ob p1 P lo hi h0 n0 _ T186.heap _
                    have hv : own_next P (p1 &&& (255 : Int32)) = (2 : Int32) := ((if_neg hc10_3 : own_next P (p1 &&& (255 : Int32)) = _).trans (own_na2 hc151_139 hc158_163))
                    exact ⟨⟨_, rfl⟩, N186, K188, Eq186, by rw [hv]; exact Fp186, _, _, Fl186, Fh186⟩
        · obtain ⟨cq190, q190, q190'⟩ := E_ob.cell
          obtain ⟨_, _, ⟨T190, L190, k190, n190⟩, -, X190, ⟨Lc190, hQ190, l190, y190, z190⟩, st190⟩ := X1.privateBack hx (y := (⟨"com/example/vestline/vestline/io/Utf8Validator", "expect", "(III)Z"⟩ : MethodName)) hown (mvT hZ (hw _ (List.mem_of_getElem? (i := 28) rfl))) (mvT hZ (hw _ (List.mem_of_getElem? (i := 29) rfl))) (mvT hZ (own_selects_private (hw _ (List.mem_of_getElem? (i := 1) rfl)) (hw _ (List.mem_of_getElem? (i := 30) rfl)) (hw _ (List.mem_of_getElem? (i := 29) rfl)))) (Cond.privateMethod_at (mvP hZ (hw _ (List.mem_of_getElem? (i := 30) rfl)) (args := #[]))) (mvT hZ (hw _ (List.mem_of_getElem? (i := 31) rfl))) (by decide) (backOf (W := 0) (rm7 l Z a0 hw [] ob (1 : Int32) (128 : Int32) (191 : Int32) (.int P) (.int lo) (.int hi) h0 n0 Z0 E_ob F_pending F_lowest F_highest g_ob) hZ (hw _ (List.mem_of_getElem? (i := 31) rfl)) (hw _ (List.mem_of_getElem? (i := 2) rfl)) (by decide) (by decide)) (g := (mkF m 96 #[.val (.ref ob), .val (.int p1), .val (.int (p1 &&& (255 : Int32))), .unset] [(.int (191 : Int32)), (.int (128 : Int32)), (.int (1 : Int32)), (.ref ob)])) rfl (by rw [hml]; rfl) (Steps.refl _) (a := ob) (by rw [e1]; exact q190) q190' (argsL := [(.int (1 : Int32)), (.int (128 : Int32)), (.int (191 : Int32))]) (rest := []) (lenOf pd_1 rfl) rfl (by show 2 * 0 + _ ≤ _; exact Nat.le_of_eq rfl) (hb hby d4_96) (fun _ _ => ⟨rfl, e1, (by decide : 0 + 0 ≤ _), (by decide : 0 + 0 ≤ _)⟩)
          dsimp only [Pt.U, Pt.locs, Pt.cells, Pt.slots] at X190 l190 y190 z190 st190 hQ190
          subst l190 y190 z190
          obtain ⟨rfl, Nq190, Kq190, Eq190, Fp190, Fl190, Fh190⟩ := hQ190
          have N190 := Fr.app N0 Nq190
          have Z191 : n0 ≤ T190.heap.size := Nat.le_trans Z0 Kq190.1
          have K192 : Keep h0 T190.heap [ob] := (Keep.refl h0 [ob]).trans Kq190 (allS (Or.inl (List.mem_of_getElem? (i := 0) rfl)) all0)
          have pre193 : ∀ t, Steps p.tables e below (T190.setTop (mkF m 252 #[.val (.ref ob), .val (.int p1), .val (.int (p1 &&& (255 : Int32))), .val (.int (1 : Int32))] [(.int (1 : Int32))])) t → Steps p.tables e below (s₁.setTop (entryFrame m #[(.ref ob), (.int p1)] 4)) t := fun t k => by
            refine pre124 t ?_
            show Steps p.tables e below (T1.setTop (mkF m 85 #[.val (.ref ob), .val (.int p1), .val (.int (p1 &&& (255 : Int32))), .unset] [(.int (223 : Int32)), (.int (p1 &&& (255 : Int32)))])) _
            refine XS.icmpNo X1.here hx rfl (hb hby d4_85) rfl (flt hc85_125).2.2.1 ?_
            show Steps p.tables e below (T1.setTop (mkF m 88 #[.val (.ref ob), .val (.int p1), .val (.int (p1 &&& (255 : Int32))), .unset] [])) _
            refine XS.aloadN X1.here hx rfl (hb hby d4_88) rfl rfl ?_
            show Steps p.tables e below (T1.setTop (mkF m 89 #[.val (.ref ob), .val (.int p1), .val (.int (p1 &&& (255 : Int32))), .unset] [(.ref ob)])) _
            refine XS.iconst X1.here hx rfl (hb hby d4_89) ?_
            show Steps p.tables e below (T1.setTop (mkF m 90 #[.val (.ref ob), .val (.int p1), .val (.int (p1 &&& (255 : Int32))), .unset] [(.int (1 : Int32)), (.ref ob)])) _
            refine XS.sipush X1.here hx rfl (hb hby d4_90) ?_
            show Steps p.tables e below (T1.setTop (mkF m 93 #[.val (.ref ob), .val (.int p1), .val (.int (p1 &&& (255 : Int32))), .unset] [(.int (128 : Int32)), (.int (1 : Int32)), (.ref ob)])) _
            refine XS.sipush X1.here hx rfl (hb hby d4_93) ?_
            show Steps p.tables e below (T1.setTop (mkF m 96 #[.val (.ref ob), .val (.int p1), .val (.int (p1 &&& (255 : Int32))), .unset] [(.int (191 : Int32)), (.int (128 : Int32)), (.int (1 : Int32)), (.ref ob)])) _
            refine st190.trans ?_
            show Steps p.tables e below (T190.setTop (mkF m 99 #[.val (.ref ob), .val (.int p1), .val (.int (p1 &&& (255 : Int32))), .unset] [(.int (1 : Int32))])) _
            refine XS.istoreN X190.here hx rfl (hb hby d4_99) rfl (l' := #[.val (.ref ob), .val (.int p1), .val (.int (p1 &&& (255 : Int32))), .val (.int (1 : Int32))]) rfl ?_
            show Steps p.tables e below (T190.setTop (mkF m 100 #[.val (.ref ob), .val (.int p1), .val (.int (p1 &&& (255 : Int32))), .val (.int (1 : Int32))] [])) _
            refine XS.goto X190.here hx rfl (pc0 := 100) (pc' := 251) rfl (hb hby d4_100) (by decide) (by decide) ?_
            show Steps p.tables e below (T190.setTop (mkF m 251 #[.val (.ref ob), .val (.int p1), .val (.int (p1 &&& (255 : Int32))), .val (.int (1 : Int32))] [])) _
            refine XS.iloadN X190.here hx rfl (hb hby d4_251) rfl ?_
            exact k
          obtain ⟨fs, hrq, hrun, hended, hW, hsame⟩ := X190.leave (v := some (.int (1 : Int32))) (fun h => by rw [Bd.returns] at h; cases h)
          refine ⟨_, _, pre193 _ ?_, hrun, hended, _, _, rfl, ?_, ⟨_, rfl⟩, hW, hsame.mono (by decide) (by decide)⟩
          · show Steps p.tables e below (T190.setTop (mkF m 252 #[.val (.ref ob), .val (.int p1), .val (.int (p1 &&& (255 : Int32))), .val (.int (1 : Int32))] [(.int (1 : Int32))])) _
            exact retN X190 hx (t := .boolean) Bd.returns (by simp) (hb hby d4_252) hrq
          · show Q4 Z ob p1 P lo hi h0 n0 _ T190.heap _
            have hv : own_next P (p1 &&& (255 : Int32)) = (1 : Int32) := ((if_neg hc10_3 : own_next P (p1 &&& (255 : Int32)) = _).trans (own_nd1 hc78_59 hc85_125))
            exact ⟨⟨_, rfl⟩, N190, K192, Eq190, by rw [hv]; exact Fp190, _, _, Fl190, Fh190⟩
theorem pd_2 : parseMethodDescriptor "()V" = some ⟨[], none⟩ := by decide +kernel
theorem pd_3 : parseMethodDescriptor "()Z" = some ⟨[], some .boolean⟩ := by decide +kernel
theorem pd_4 : parseMethodDescriptor "(B)Z" = some ⟨[.byte], some .boolean⟩ := by decide +kernel
theorem pd_5 : parseMethodDescriptor "(II)I" = some ⟨[.int, .int], some .int⟩ := by decide +kernel
theorem ef_rm0 (m : MethodId) (x0 : Int32) (x1 : Int32) (x2 : Int32) (x3 : Int32) : entryFrame m #[(.int x0), (.int x1), (.int x2), (.int x3)] maxLocals = mkF m 0 #[.val (.int x0), .val (.int x1), .val (.int x2), .val (.int x3), .unset, .unset, .unset] [] := by first | (simp [entryFrame, mkF, argsToLocals, Value.category, maxLocals]; done) | rfl
def Q0 (Z : State) (p0 : Int32) (p1 : Int32) (p2 : Int32) (p3 : Int32) (h0 : Heap) (n0 : Nat) (v : Option Value) (h : Heap) (L : List Loc) : Prop := v = some (.int 1) ∧ Fr n0 L
set_option maxRecDepth 65536 in
set_option maxHeartbeats 40000000 in
theorem rm0 (l : Launch) (Z : State) (a0 : Array Value) (hw : ∀ d ∈ tables_1, d.before a0 Z = true) (ws : List Jvm.Cond) (p0 : Int32) (p1 : Int32) (p2 : Int32) (p3 : Int32) (h0 : Heap) (n0 : Nat) (Z0 : n0 ≤ h0.size)  :
    MetFree l x (head1 (Jvm.Cond.code x code maxLocals ret :: ws) room_1) (fun a U => a = #[(.int p0), (.int p1), (.int p2), (.int p3)] ∧ Z.Warmed39 U.vm ∧ U.heap = h0) (fun _ _ _ _ _ => True) (fun _ U o U' => ∃ v L, o = .returned v ∧ Q0 Z p0 p1 p2 p3 h0 n0 v U'.heap L ∧ FrameEnd U o U' L room_1.cells room_1.slots) := by
  refine MetFree.of_bodySF (plainFor_of_name pn_1) hisR ?_
  intro p e s0 m args below meth c s₁ Bd hml0 hP hK
  obtain ⟨rfl, hZ, hh⟩ := hP
  have hx := Bd.exec
  have hby := Bd.bytes
  have hml : c.maxLocals = 7 := hml0
  have hown : s0.vm.findClass "com/example/vestline/vestline/io/Utf8ValidatorPendingPinLaw" = some m.cls := findClass_of_methodNamed Bd.named
  have hnm := (name_of_methodNamed Bd.named Bd.method).1
  have X0 : Stand p l e room_1 s0 m #[(.int p0), (.int p1), (.int p2), (.int p3)] below meth c s₁ [] 0 0 := Stand.of_body Bd
  have e0 : s₁.heap = h0 := by rw [← hh, Bd.state]; rfl
  have N0 := Fr.nil n0
  have pre0 : ∀ t, Steps p.tables e below (s₁.setTop (mkF m 0 #[.val (.int p0), .val (.int p1), .val (.int p2), .val (.int p3), .unset, .unset, .unset] [])) t → Steps p.tables e below (s₁.setTop (entryFrame m #[(.int p0), (.int p1), (.int p2), (.int p3)] maxLocals)) t := fun t k => castTop (ef_rm0 m p0 p1 p2 p3) k
  obtain ⟨T1, h1, X1, e1, E1, A1, D1, -, st1⟩ := newO X0 hx hZ hown (hw _ (List.mem_of_getElem? (i := 0) rfl)) (hw _ (List.mem_of_getElem? (i := 1) rfl)) (hw _ (List.mem_of_getElem? (i := 2) rfl)) e0 (g := (mkF m 0 #[.val (.int p0), .val (.int p1), .val (.int p2), .val (.int p3), .unset, .unset, .unset] [])) rfl (hb hby at_0) (by decide) (by decide)
  obtain ⟨b1, g1⟩ : ∃ z, z = h0.size := ⟨_, rfl⟩
  rw [← g1] at A1 D1 st1
  have g_b1 : n0 ≤ b1 := Nat.le_trans Z0 (Nat.le_of_eq g1.symm)
  have Z2 : n0 ≤ h1.size := Nat.le_trans Z0 E1.1
  have F_pending_b1 : Fld Z h1 b1 "com/example/vestline/vestline/io/Utf8Validator" "pending" "I" (.int (0 : Int32)) := D1 (Or.inl (hw _ (List.mem_of_getElem? (i := 15) rfl))) (ty := .int) (by decide)
  have F_lowest_b1 : Fld Z h1 b1 "com/example/vestline/vestline/io/Utf8Validator" "lowest" "I" (.int (0 : Int32)) := D1 (Or.inl (hw _ (List.mem_of_getElem? (i := 33) rfl))) (ty := .int) (by decide)
  have F_highest_b1 : Fld Z h1 b1 "com/example/vestline/vestline/io/Utf8Validator" "highest" "I" (.int (0 : Int32)) := D1 (Or.inl (hw _ (List.mem_of_getElem? (i := 35) rfl))) (ty := .int) (by decide)
  obtain ⟨_, _, ⟨T3, L3, k3, n3⟩, -, X3, ⟨Lc3, hQ3, l3, y3, z3⟩, st3⟩ := X1.specialBack hx (y := (⟨"com/example/vestline/vestline/io/Utf8Validator", "<init>", "()V"⟩ : MethodName)) rfl hown (mvT hZ (hw _ (List.mem_of_getElem? (i := 3) rfl))) (mvT hZ (hw _ (List.mem_of_getElem? (i := 4) rfl))) (mvT hZ (hw _ (List.mem_of_getElem? (i := 5) rfl))) (by decide) (backOf (W := 1) (rm1 l Z a0 hw [] b1 h1 n0 Z2 ) hZ (hw _ (List.mem_of_getElem? (i := 5) rfl)) (hw _ (List.mem_of_getElem? (i := 2) rfl)) (by decide) (by decide)) (g := (mkF m 4 #[.val (.int p0), .val (.int p1), .val (.int p2), .val (.int p3), .unset, .unset, .unset] [(.ref b1), (.ref b1)])) rfl (by rw [hml]; rfl) (Steps.refl _) (a := b1) (argsL := []) (rest := [(.ref b1)]) (lenOf pd_2 rfl) rfl (by show 2 * 0 + _ ≤ _; exact Nat.le_of_eq rfl) (hb hby at_4) (fun _ _ => ⟨rfl, e1, (by decide : 1 + 0 ≤ _), (by decide : 3 + 0 ≤ _)⟩)
  dsimp only [Pt.U, Pt.locs, Pt.cells, Pt.slots] at X3 l3 y3 z3 st3 hQ3
  subst l3 y3 z3
  obtain ⟨rfl, Nq3, hh3⟩ := hQ3
  have N3 := Fr.app N0 Nq3
  have e3 : T3.heap = h1 := hh3
  obtain ⟨cq4, kq4, q4a, q4b, q4c⟩ := isOf hZ e3 A1
  obtain ⟨_, _, ⟨T4, L4, k4, n4⟩, -, X4, ⟨Lc4, hQ4, l4, y4, z4⟩, st4⟩ := X3.virtualBack hx (y := (⟨"com/example/vestline/vestline/io/Utf8Validator", "pending", "()Z"⟩ : MethodName)) (z := (⟨"com/example/vestline/vestline/io/Utf8Validator", "pending", "()Z"⟩ : MethodName)) hown (mvT hZ (hw _ (List.mem_of_getElem? (i := 9) rfl))) (mvT hZ (hw _ (List.mem_of_getElem? (i := 10) rfl))) (notFace_of_selects (args := #[]) (mvT hZ (hw _ (List.mem_of_getElem? (i := 12) rfl)))) (mvT hZ (hw _ (List.mem_of_getElem? (i := 12) rfl))) (mvT hZ (hw _ (List.mem_of_getElem? (i := 11) rfl))) (by decide) (backOf (W := 0) (rm3 l Z a0 hw [] b1 (0 : Int32) (0 : Int32) h1 n0 Z2 F_pending_b1 (by decide)) hZ (hw _ (List.mem_of_getElem? (i := 13) rfl)) (hw _ (List.mem_of_getElem? (i := 2) rfl)) (by decide) (by decide)) q4a q4c (g := (mkF m 11 #[.val (.int p0), .val (.int p1), .val (.int p2), .val (.int p3), .val (.ref b1), .unset, .unset] [(.ref b1)])) rfl (by rw [hml]; rfl) (Steps.refl _) (argsL := []) (rest := []) (lenOf pd_3 rfl) rfl (by show 2 * 0 + _ ≤ _; exact Nat.le_of_eq rfl) (hb hby at_11) (fun _ _ => ⟨rfl, e3, (by decide : 1 + 0 ≤ _), (by decide : 3 + 0 ≤ _)⟩)
  dsimp only [Pt.U, Pt.locs, Pt.cells, Pt.slots] at X4 l4 y4 z4 st4 hQ4
  subst l4 y4 z4
  obtain ⟨rfl, Nq4, hh4⟩ := hQ4
  have N4 := Fr.app N3 Nq4
  have e4 : T4.heap = h1 := hh4
  obtain ⟨cq5, kq5, q5a, q5b, q5c⟩ := isOf hZ e4 A1
  obtain ⟨_, _, ⟨T5, L5, k5, n5⟩, -, X5, ⟨Lc5, hQ5, l5, y5, z5⟩, st5⟩ := X4.virtualBack hx (y := (⟨"com/example/vestline/vestline/io/Utf8Validator", "accept", "(B)Z"⟩ : MethodName)) (z := (⟨"com/example/vestline/vestline/io/Utf8Validator", "accept", "(B)Z"⟩ : MethodName)) hown (mvT hZ (hw _ (List.mem_of_getElem? (i := 16) rfl))) (mvT hZ (hw _ (List.mem_of_getElem? (i := 17) rfl))) (notFace_of_selects (args := #[]) (mvT hZ (hw _ (List.mem_of_getElem? (i := 19) rfl)))) (mvT hZ (hw _ (List.mem_of_getElem? (i := 19) rfl))) (mvT hZ (hw _ (List.mem_of_getElem? (i := 18) rfl))) (by decide) (backOf (W := 0) (rm4 l Z a0 hw [] b1 (p0.toInt8.toInt32) (0 : Int32) (0 : Int32) (0 : Int32) h1 n0 Z2 A1 F_pending_b1 F_lowest_b1 F_highest_b1 g_b1 (fun _ => rfl)) hZ (hw _ (List.mem_of_getElem? (i := 20) rfl)) (hw _ (List.mem_of_getElem? (i := 2) rfl)) (by decide) (by decide)) q5a q5c (g := (mkF m 31 #[.val (.int p0), .val (.int p1), .val (.int p2), .val (.int p3), .val (.ref b1), .val (.int (1 : Int32)), .val (.int (0 : Int32))] [(.int (p0.toInt8.toInt32)), (.ref b1)])) rfl (by rw [hml]; rfl) (Steps.refl _) (argsL := [(.int (p0.toInt8.toInt32))]) (rest := []) (lenOf pd_4 rfl) rfl (by show 2 * 0 + _ ≤ _; exact Nat.le_of_eq rfl) (hb hby at_31) (fun _ _ => ⟨rfl, e4, (by decide : 1 + 0 ≤ _), (by decide : 3 + 0 ≤ _)⟩)
  dsimp only [Pt.U, Pt.locs, Pt.cells, Pt.slots] at X5 l5 y5 z5 st5 hQ5
  subst l5 y5 z5
  obtain ⟨⟨r5, rfl⟩, Nq5, Kq5, Eq5, Fp5, lo5, hi5, Fl5, Fh5⟩ := hQ5
  have N5 := Fr.app N4 Nq5
  have Z6 : n0 ≤ T5.heap.size := Nat.le_trans Z2 Kq5.1
  rw [own_b255] at Fp5
  obtain ⟨_, _, ⟨T7, L7, k7, n7⟩, -, X7, ⟨Lc7, hQ7, l7, y7, z7⟩, st7⟩ := Jvm.LawKit.callS X5 hx (y := (⟨"com/example/vestline/vestline/io/Utf8ValidatorPendingPinLaw", "next", "(II)I"⟩ : MethodName)) hown (mvT hZ (hw _ (List.mem_of_getElem? (i := 21) rfl))) (mvT hZ (hw _ (List.mem_of_getElem? (i := 22) rfl))) (mvT hZ (hw _ (List.mem_of_getElem? (i := 23) rfl))) (mvT hZ (hw _ (List.mem_of_getElem? (i := 24) rfl))) (by decide) (backOf (W := 0) (rm5 l Z a0 hw [] (0 : Int32) (p0 &&& (255 : Int32)) T5.heap n0 Z6 ) hZ (hw _ (List.mem_of_getElem? (i := 24) rfl)) (hw _ (List.mem_of_getElem? (i := 23) rfl)) (by decide) (by decide)) (g := (mkF m 42 #[.val (.int p0), .val (.int p1), .val (.int p2), .val (.int p3), .val (.ref b1), .val (.int (1 : Int32)), .val (.int (0 : Int32))] [(.int (p0 &&& (255 : Int32))), (.int (0 : Int32))])) rfl (by rw [hml]; rfl) (argsL := [(.int (0 : Int32)), (.int (p0 &&& (255 : Int32)))]) (rest := []) (lenOf pd_5 rfl) rfl (by show 2 * 0 + _ ≤ _; exact Nat.le_of_eq rfl) (hb hby at_42) (fun _ _ => ⟨rfl, rfl, (by decide : 1 + 0 ≤ _), (by decide : 3 + 0 ≤ _)⟩)
  dsimp only [Pt.U, Pt.locs, Pt.cells, Pt.slots] at X7 l7 y7 z7 st7 hQ7
  subst l7 y7 z7
  obtain ⟨rfl, Nq7, hh7⟩ := hQ7
  have N7 := Fr.app N5 Nq7
  have e7 : T7.heap = T5.heap := hh7
  obtain ⟨cq8, kq8, q8a, q8b, q8c⟩ := isOf hZ e7 Eq5
  obtain ⟨_, _, ⟨T8, L8, k8, n8⟩, -, X8, ⟨Lc8, hQ8, l8, y8, z8⟩, st8⟩ := X7.virtualBack hx (y := (⟨"com/example/vestline/vestline/io/Utf8Validator", "pending", "()Z"⟩ : MethodName)) (z := (⟨"com/example/vestline/vestline/io/Utf8Validator", "pending", "()Z"⟩ : MethodName)) hown (mvT hZ (hw _ (List.mem_of_getElem? (i := 9) rfl))) (mvT hZ (hw _ (List.mem_of_getElem? (i := 10) rfl))) (notFace_of_selects (args := #[]) (mvT hZ (hw _ (List.mem_of_getElem? (i := 12) rfl)))) (mvT hZ (hw _ (List.mem_of_getElem? (i := 12) rfl))) (mvT hZ (hw _ (List.mem_of_getElem? (i := 11) rfl))) (by decide) (backOf (W := 0) (rm3 l Z a0 hw [] b1 (own_next (0 : Int32) (p0 &&& (255 : Int32))) (if (0 : Int32) < (own_next (0 : Int32) (p0 &&& (255 : Int32))) then (1 : Int32) else (0 : Int32)) T5.heap n0 Z6 Fp5 rfl) hZ (hw _ (List.mem_of_getElem? (i := 13) rfl)) (hw _ (List.mem_of_getElem? (i := 2) rfl)) (by decide) (by decide)) q8a q8c (g := (mkF m 54 #[.val (.int p0), .val (.int p1), .val (.int p2), .val (.int p3), .val (.ref b1), .val (.int (1 : Int32)), .val (.int (own_next (0 : Int32) (p0 &&& (255 : Int32))))] [(.ref b1)])) rfl (by rw [hml]; rfl) (Steps.refl _) (argsL := []) (rest := []) (lenOf pd_3 rfl) rfl (by show 2 * 0 + _ ≤ _; exact Nat.le_of_eq rfl) (hb hby at_54) (fun _ _ => ⟨rfl, e7, (by decide : 1 + 0 ≤ _), (by decide : 3 + 0 ≤ _)⟩)
  dsimp only [Pt.U, Pt.locs, Pt.cells, Pt.slots] at X8 l8 y8 z8 st8 hQ8
  subst l8 y8 z8
  obtain ⟨rfl, Nq8, hh8⟩ := hQ8
  have N8 := Fr.app N7 Nq8
  have e8 : T8.heap = T5.heap := hh8
  obtain ⟨cq9, kq9, q9a, q9b, q9c⟩ := isOf hZ e8 Eq5
  obtain ⟨_, _, ⟨T9, L9, k9, n9⟩, -, X9, ⟨Lc9, hQ9, l9, y9, z9⟩, st9⟩ := X8.virtualBack hx (y := (⟨"com/example/vestline/vestline/io/Utf8Validator", "accept", "(B)Z"⟩ : MethodName)) (z := (⟨"com/example/vestline/vestline/io/Utf8Validator", "accept", "(B)Z"⟩ : MethodName)) hown (mvT hZ (hw _ (List.mem_of_getElem? (i := 16) rfl))) (mvT hZ (hw _ (List.mem_of_getElem? (i := 17) rfl))) (notFace_of_selects (args := #[]) (mvT hZ (hw _ (List.mem_of_getElem? (i := 19) rfl)))) (mvT hZ (hw _ (List.mem_of_getElem? (i := 19) rfl))) (mvT hZ (hw _ (List.mem_of_getElem? (i := 18) rfl))) (by decide) (backOf (W := 0) (rm4 l Z a0 hw [] b1 (p1.toInt8.toInt32) (own_next (0 : Int32) (p0 &&& (255 : Int32))) lo5 hi5 T5.heap n0 Z6 Eq5 Fp5 Fl5 Fh5 g_b1 (own_nz _ _)) hZ (hw _ (List.mem_of_getElem? (i := 20) rfl)) (hw _ (List.mem_of_getElem? (i := 2) rfl)) (by decide) (by decide)) q9a q9c (g := (mkF m 81 #[.val (.int p0), .val (.int p1), .val (.int p2), .val (.int p3), .val (.ref b1), .val (.int (1 : Int32)), .val (.int (own_next (0 : Int32) (p0 &&& (255 : Int32))))] [(.int (p1.toInt8.toInt32)), (.ref b1)])) rfl (by rw [hml]; rfl) (Steps.refl _) (argsL := [(.int (p1.toInt8.toInt32))]) (rest := []) (lenOf pd_4 rfl) rfl (by show 2 * 0 + _ ≤ _; exact Nat.le_of_eq rfl) (hb hby at_81) (fun _ _ => ⟨rfl, e8, (by decide : 1 + 0 ≤ _), (by decide : 3 + 0 ≤ _)⟩)
  dsimp only [Pt.U, Pt.locs, Pt.cells, Pt.slots] at X9 l9 y9 z9 st9 hQ9
  subst l9 y9 z9
  obtain ⟨⟨r9, rfl⟩, Nq9, Kq9, Eq9, Fp9, lo9, hi9, Fl9, Fh9⟩ := hQ9
  have N9 := Fr.app N8 Nq9
  have Z10 : n0 ≤ T9.heap.size := Nat.le_trans Z6 Kq9.1
  rw [own_b255] at Fp9
  obtain ⟨_, _, ⟨T11, L11, k11, n11⟩, -, X11, ⟨Lc11, hQ11, l11, y11, z11⟩, st11⟩ := Jvm.LawKit.callS X9 hx (y := (⟨"com/example/vestline/vestline/io/Utf8ValidatorPendingPinLaw", "next", "(II)I"⟩ : MethodName)) hown (mvT hZ (hw _ (List.mem_of_getElem? (i := 21) rfl))) (mvT hZ (hw _ (List.mem_of_getElem? (i := 22) rfl))) (mvT hZ (hw _ (List.mem_of_getElem? (i := 23) rfl))) (mvT hZ (hw _ (List.mem_of_getElem? (i := 24) rfl))) (by decide) (backOf (W := 0) (rm5 l Z a0 hw [] (own_next (0 : Int32) (p0 &&& (255 : Int32))) (p1 &&& (255 : Int32)) T9.heap n0 Z10 ) hZ (hw _ (List.mem_of_getElem? (i := 24) rfl)) (hw _ (List.mem_of_getElem? (i := 23) rfl)) (by decide) (by decide)) (g := (mkF m 92 #[.val (.int p0), .val (.int p1), .val (.int p2), .val (.int p3), .val (.ref b1), .val (.int (1 : Int32)), .val (.int (own_next (0 : Int32) (p0 &&& (255 : Int32))))] [(.int (p1 &&& (255 : Int32))), (.int (own_next (0 : Int32) (p0 &&& (255 : Int32))))])) rfl (by rw [hml]; rfl) (argsL := [(.int (own_next (0 : Int32) (p0 &&& (255 : Int32)))), (.int (p1 &&& (255 : Int32)))]) (rest := []) (lenOf pd_5 rfl) rfl (by show 2 * 0 + _ ≤ _; exact Nat.le_of_eq rfl) (hb hby at_92) (fun _ _ => ⟨rfl, rfl, (by decide : 1 + 0 ≤ _), (by decide : 3 + 0 ≤ _)⟩)
  dsimp only [Pt.U, Pt.locs, Pt.cells, Pt.slots] at X11 l11 y11 z11 st11 hQ11
  subst l11 y11 z11
  obtain ⟨rfl, Nq11, hh11⟩ := hQ11
  have N11 := Fr.app N9 Nq11
  have e11 : T11.heap = T9.heap := hh11
  obtain ⟨cq12, kq12, q12a, q12b, q12c⟩ := isOf hZ e11 Eq9
  obtain ⟨_, _, ⟨T12, L12, k12, n12⟩, -, X12, ⟨Lc12, hQ12, l12, y12, z12⟩, st12⟩ := X11.virtualBack hx (y := (⟨"com/example/vestline/vestline/io/Utf8Validator", "pending", "()Z"⟩ : MethodName)) (z := (⟨"com/example/vestline/vestline/io/Utf8Validator", "pending", "()Z"⟩ : MethodName)) hown (mvT hZ (hw _ (List.mem_of_getElem? (i := 9) rfl))) (mvT hZ (hw _ (List.mem_of_getElem? (i := 10) rfl))) (notFace_of_selects (args := #[]) (mvT hZ (hw _ (List.mem_of_getElem? (i := 12) rfl)))) (mvT hZ (hw _ (List.mem_of_getElem? (i := 12) rfl))) (mvT hZ (hw _ (List.mem_of_getElem? (i := 11) rfl))) (by decide) (backOf (W := 0) (rm3 l Z a0 hw [] b1 (own_next (own_next (0 : Int32) (p0 &&& (255 : Int32))) (p1 &&& (255 : Int32))) (if (0 : Int32) < (own_next (own_next (0 : Int32) (p0 &&& (255 : Int32))) (p1 &&& (255 : Int32))) then (1 : Int32) else (0 : Int32)) T9.heap n0 Z10 Fp9 rfl) hZ (hw _ (List.mem_of_getElem? (i := 13) rfl)) (hw _ (List.mem_of_getElem? (i := 2) rfl)) (by decide) (by decide)) q12a q12c (g := (mkF m 104 #[.val (.int p0), .val (.int p1), .val (.int p2), .val (.int p3), .val (.ref b1), .val (.int (1 : Int32)), .val (.int (own_next (own_next (0 : Int32) (p0 &&& (255 : Int32))) (p1 &&& (255 : Int32))))] [(.ref b1)])) rfl (by rw [hml]; rfl) (Steps.refl _) (argsL := []) (rest := []) (lenOf pd_3 rfl) rfl (by show 2 * 0 + _ ≤ _; exact Nat.le_of_eq rfl) (hb hby at_104) (fun _ _ => ⟨rfl, e11, (by decide : 1 + 0 ≤ _), (by decide : 3 + 0 ≤ _)⟩)
  dsimp only [Pt.U, Pt.locs, Pt.cells, Pt.slots] at X12 l12 y12 z12 st12 hQ12
  subst l12 y12 z12
  obtain ⟨rfl, Nq12, hh12⟩ := hQ12
  have N12 := Fr.app N11 Nq12
  have e12 : T12.heap = T9.heap := hh12
  obtain ⟨cq13, kq13, q13a, q13b, q13c⟩ := isOf hZ e12 Eq9
  obtain ⟨_, _, ⟨T13, L13, k13, n13⟩, -, X13, ⟨Lc13, hQ13, l13, y13, z13⟩, st13⟩ := X12.virtualBack hx (y := (⟨"com/example/vestline/vestline/io/Utf8Validator", "accept", "(B)Z"⟩ : MethodName)) (z := (⟨"com/example/vestline/vestline/io/Utf8Validator", "accept", "(B)Z"⟩ : MethodName)) hown (mvT hZ (hw _ (List.mem_of_getElem? (i := 16) rfl))) (mvT hZ (hw _ (List.mem_of_getElem? (i := 17) rfl))) (notFace_of_selects (args := #[]) (mvT hZ (hw _ (List.mem_of_getElem? (i := 19) rfl)))) (mvT hZ (hw _ (List.mem_of_getElem? (i := 19) rfl))) (mvT hZ (hw _ (List.mem_of_getElem? (i := 18) rfl))) (by decide) (backOf (W := 0) (rm4 l Z a0 hw [] b1 (p2.toInt8.toInt32) (own_next (own_next (0 : Int32) (p0 &&& (255 : Int32))) (p1 &&& (255 : Int32))) lo9 hi9 T9.heap n0 Z10 Eq9 Fp9 Fl9 Fh9 g_b1 (own_nz _ _)) hZ (hw _ (List.mem_of_getElem? (i := 20) rfl)) (hw _ (List.mem_of_getElem? (i := 2) rfl)) (by decide) (by decide)) q13a q13c (g := (mkF m 131 #[.val (.int p0), .val (.int p1), .val (.int p2), .val (.int p3), .val (.ref b1), .val (.int (1 : Int32)), .val (.int (own_next (own_next (0 : Int32) (p0 &&& (255 : Int32))) (p1 &&& (255 : Int32))))] [(.int (p2.toInt8.toInt32)), (.ref b1)])) rfl (by rw [hml]; rfl) (Steps.refl _) (argsL := [(.int (p2.toInt8.toInt32))]) (rest := []) (lenOf pd_4 rfl) rfl (by show 2 * 0 + _ ≤ _; exact Nat.le_of_eq rfl) (hb hby at_131) (fun _ _ => ⟨rfl, e12, (by decide : 1 + 0 ≤ _), (by decide : 3 + 0 ≤ _)⟩)
  dsimp only [Pt.U, Pt.locs, Pt.cells, Pt.slots] at X13 l13 y13 z13 st13 hQ13
  subst l13 y13 z13
  obtain ⟨⟨r13, rfl⟩, Nq13, Kq13, Eq13, Fp13, lo13, hi13, Fl13, Fh13⟩ := hQ13
  have N13 := Fr.app N12 Nq13
  have Z14 : n0 ≤ T13.heap.size := Nat.le_trans Z10 Kq13.1
  rw [own_b255] at Fp13
  obtain ⟨_, _, ⟨T15, L15, k15, n15⟩, -, X15, ⟨Lc15, hQ15, l15, y15, z15⟩, st15⟩ := Jvm.LawKit.callS X13 hx (y := (⟨"com/example/vestline/vestline/io/Utf8ValidatorPendingPinLaw", "next", "(II)I"⟩ : MethodName)) hown (mvT hZ (hw _ (List.mem_of_getElem? (i := 21) rfl))) (mvT hZ (hw _ (List.mem_of_getElem? (i := 22) rfl))) (mvT hZ (hw _ (List.mem_of_getElem? (i := 23) rfl))) (mvT hZ (hw _ (List.mem_of_getElem? (i := 24) rfl))) (by decide) (backOf (W := 0) (rm5 l Z a0 hw [] (own_next (own_next (0 : Int32) (p0 &&& (255 : Int32))) (p1 &&& (255 : Int32))) (p2 &&& (255 : Int32)) T13.heap n0 Z14 ) hZ (hw _ (List.mem_of_getElem? (i := 24) rfl)) (hw _ (List.mem_of_getElem? (i := 23) rfl)) (by decide) (by decide)) (g := (mkF m 142 #[.val (.int p0), .val (.int p1), .val (.int p2), .val (.int p3), .val (.ref b1), .val (.int (1 : Int32)), .val (.int (own_next (own_next (0 : Int32) (p0 &&& (255 : Int32))) (p1 &&& (255 : Int32))))] [(.int (p2 &&& (255 : Int32))), (.int (own_next (own_next (0 : Int32) (p0 &&& (255 : Int32))) (p1 &&& (255 : Int32))))])) rfl (by rw [hml]; rfl) (argsL := [(.int (own_next (own_next (0 : Int32) (p0 &&& (255 : Int32))) (p1 &&& (255 : Int32)))), (.int (p2 &&& (255 : Int32)))]) (rest := []) (lenOf pd_5 rfl) rfl (by show 2 * 0 + _ ≤ _; exact Nat.le_of_eq rfl) (hb hby at_142) (fun _ _ => ⟨rfl, rfl, (by decide : 1 + 0 ≤ _), (by decide : 3 + 0 ≤ _)⟩)
  dsimp only [Pt.U, Pt.locs, Pt.cells, Pt.slots] at X15 l15 y15 z15 st15 hQ15
  subst l15 y15 z15
  obtain ⟨rfl, Nq15, hh15⟩ := hQ15
  have N15 := Fr.app N13 Nq15
  have e15 : T15.heap = T13.heap := hh15
  obtain ⟨cq16, kq16, q16a, q16b, q16c⟩ := isOf hZ e15 Eq13
  obtain ⟨_, _, ⟨T16, L16, k16, n16⟩, -, X16, ⟨Lc16, hQ16, l16, y16, z16⟩, st16⟩ := X15.virtualBack hx (y := (⟨"com/example/vestline/vestline/io/Utf8Validator", "pending", "()Z"⟩ : MethodName)) (z := (⟨"com/example/vestline/vestline/io/Utf8Validator", "pending", "()Z"⟩ : MethodName)) hown (mvT hZ (hw _ (List.mem_of_getElem? (i := 9) rfl))) (mvT hZ (hw _ (List.mem_of_getElem? (i := 10) rfl))) (notFace_of_selects (args := #[]) (mvT hZ (hw _ (List.mem_of_getElem? (i := 12) rfl)))) (mvT hZ (hw _ (List.mem_of_getElem? (i := 12) rfl))) (mvT hZ (hw _ (List.mem_of_getElem? (i := 11) rfl))) (by decide) (backOf (W := 0) (rm3 l Z a0 hw [] b1 (own_next (own_next (own_next (0 : Int32) (p0 &&& (255 : Int32))) (p1 &&& (255 : Int32))) (p2 &&& (255 : Int32))) (if (0 : Int32) < (own_next (own_next (own_next (0 : Int32) (p0 &&& (255 : Int32))) (p1 &&& (255 : Int32))) (p2 &&& (255 : Int32))) then (1 : Int32) else (0 : Int32)) T13.heap n0 Z14 Fp13 rfl) hZ (hw _ (List.mem_of_getElem? (i := 13) rfl)) (hw _ (List.mem_of_getElem? (i := 2) rfl)) (by decide) (by decide)) q16a q16c (g := (mkF m 154 #[.val (.int p0), .val (.int p1), .val (.int p2), .val (.int p3), .val (.ref b1), .val (.int (1 : Int32)), .val (.int (own_next (own_next (own_next (0 : Int32) (p0 &&& (255 : Int32))) (p1 &&& (255 : Int32))) (p2 &&& (255 : Int32))))] [(.ref b1)])) rfl (by rw [hml]; rfl) (Steps.refl _) (argsL := []) (rest := []) (lenOf pd_3 rfl) rfl (by show 2 * 0 + _ ≤ _; exact Nat.le_of_eq rfl) (hb hby at_154) (fun _ _ => ⟨rfl, e15, (by decide : 1 + 0 ≤ _), (by decide : 3 + 0 ≤ _)⟩)
  dsimp only [Pt.U, Pt.locs, Pt.cells, Pt.slots] at X16 l16 y16 z16 st16 hQ16
  subst l16 y16 z16
  obtain ⟨rfl, Nq16, hh16⟩ := hQ16
  have N16 := Fr.app N15 Nq16
  have e16 : T16.heap = T13.heap := hh16
  obtain ⟨cq17, kq17, q17a, q17b, q17c⟩ := isOf hZ e16 Eq13
  obtain ⟨_, _, ⟨T17, L17, k17, n17⟩, -, X17, ⟨Lc17, hQ17, l17, y17, z17⟩, st17⟩ := X16.virtualBack hx (y := (⟨"com/example/vestline/vestline/io/Utf8Validator", "accept", "(B)Z"⟩ : MethodName)) (z := (⟨"com/example/vestline/vestline/io/Utf8Validator", "accept", "(B)Z"⟩ : MethodName)) hown (mvT hZ (hw _ (List.mem_of_getElem? (i := 16) rfl))) (mvT hZ (hw _ (List.mem_of_getElem? (i := 17) rfl))) (notFace_of_selects (args := #[]) (mvT hZ (hw _ (List.mem_of_getElem? (i := 19) rfl)))) (mvT hZ (hw _ (List.mem_of_getElem? (i := 19) rfl))) (mvT hZ (hw _ (List.mem_of_getElem? (i := 18) rfl))) (by decide) (backOf (W := 0) (rm4 l Z a0 hw [] b1 (p3.toInt8.toInt32) (own_next (own_next (own_next (0 : Int32) (p0 &&& (255 : Int32))) (p1 &&& (255 : Int32))) (p2 &&& (255 : Int32))) lo13 hi13 T13.heap n0 Z14 Eq13 Fp13 Fl13 Fh13 g_b1 (own_nz _ _)) hZ (hw _ (List.mem_of_getElem? (i := 20) rfl)) (hw _ (List.mem_of_getElem? (i := 2) rfl)) (by decide) (by decide)) q17a q17c (g := (mkF m 181 #[.val (.int p0), .val (.int p1), .val (.int p2), .val (.int p3), .val (.ref b1), .val (.int (1 : Int32)), .val (.int (own_next (own_next (own_next (0 : Int32) (p0 &&& (255 : Int32))) (p1 &&& (255 : Int32))) (p2 &&& (255 : Int32))))] [(.int (p3.toInt8.toInt32)), (.ref b1)])) rfl (by rw [hml]; rfl) (Steps.refl _) (argsL := [(.int (p3.toInt8.toInt32))]) (rest := []) (lenOf pd_4 rfl) rfl (by show 2 * 0 + _ ≤ _; exact Nat.le_of_eq rfl) (hb hby at_181) (fun _ _ => ⟨rfl, e16, (by decide : 1 + 0 ≤ _), (by decide : 3 + 0 ≤ _)⟩)
  dsimp only [Pt.U, Pt.locs, Pt.cells, Pt.slots] at X17 l17 y17 z17 st17 hQ17
  subst l17 y17 z17
  obtain ⟨⟨r17, rfl⟩, Nq17, Kq17, Eq17, Fp17, lo17, hi17, Fl17, Fh17⟩ := hQ17
  have N17 := Fr.app N16 Nq17
  have Z18 : n0 ≤ T17.heap.size := Nat.le_trans Z14 Kq17.1
  rw [own_b255] at Fp17
  obtain ⟨_, _, ⟨T19, L19, k19, n19⟩, -, X19, ⟨Lc19, hQ19, l19, y19, z19⟩, st19⟩ := Jvm.LawKit.callS X17 hx (y := (⟨"com/example/vestline/vestline/io/Utf8ValidatorPendingPinLaw", "next", "(II)I"⟩ : MethodName)) hown (mvT hZ (hw _ (List.mem_of_getElem? (i := 21) rfl))) (mvT hZ (hw _ (List.mem_of_getElem? (i := 22) rfl))) (mvT hZ (hw _ (List.mem_of_getElem? (i := 23) rfl))) (mvT hZ (hw _ (List.mem_of_getElem? (i := 24) rfl))) (by decide) (backOf (W := 0) (rm5 l Z a0 hw [] (own_next (own_next (own_next (0 : Int32) (p0 &&& (255 : Int32))) (p1 &&& (255 : Int32))) (p2 &&& (255 : Int32))) (p3 &&& (255 : Int32)) T17.heap n0 Z18 ) hZ (hw _ (List.mem_of_getElem? (i := 24) rfl)) (hw _ (List.mem_of_getElem? (i := 23) rfl)) (by decide) (by decide)) (g := (mkF m 192 #[.val (.int p0), .val (.int p1), .val (.int p2), .val (.int p3), .val (.ref b1), .val (.int (1 : Int32)), .val (.int (own_next (own_next (own_next (0 : Int32) (p0 &&& (255 : Int32))) (p1 &&& (255 : Int32))) (p2 &&& (255 : Int32))))] [(.int (p3 &&& (255 : Int32))), (.int (own_next (own_next (own_next (0 : Int32) (p0 &&& (255 : Int32))) (p1 &&& (255 : Int32))) (p2 &&& (255 : Int32))))])) rfl (by rw [hml]; rfl) (argsL := [(.int (own_next (own_next (own_next (0 : Int32) (p0 &&& (255 : Int32))) (p1 &&& (255 : Int32))) (p2 &&& (255 : Int32)))), (.int (p3 &&& (255 : Int32)))]) (rest := []) (lenOf pd_5 rfl) rfl (by show 2 * 0 + _ ≤ _; exact Nat.le_of_eq rfl) (hb hby at_192) (fun _ _ => ⟨rfl, rfl, (by decide : 1 + 0 ≤ _), (by decide : 3 + 0 ≤ _)⟩)
  dsimp only [Pt.U, Pt.locs, Pt.cells, Pt.slots] at X19 l19 y19 z19 st19 hQ19
  subst l19 y19 z19
  obtain ⟨rfl, Nq19, hh19⟩ := hQ19
  have N19 := Fr.app N17 Nq19
  have e19 : T19.heap = T17.heap := hh19
  obtain ⟨cq20, kq20, q20a, q20b, q20c⟩ := isOf hZ e19 Eq17
  obtain ⟨_, _, ⟨T20, L20, k20, n20⟩, -, X20, ⟨Lc20, hQ20, l20, y20, z20⟩, st20⟩ := X19.virtualBack hx (y := (⟨"com/example/vestline/vestline/io/Utf8Validator", "pending", "()Z"⟩ : MethodName)) (z := (⟨"com/example/vestline/vestline/io/Utf8Validator", "pending", "()Z"⟩ : MethodName)) hown (mvT hZ (hw _ (List.mem_of_getElem? (i := 9) rfl))) (mvT hZ (hw _ (List.mem_of_getElem? (i := 10) rfl))) (notFace_of_selects (args := #[]) (mvT hZ (hw _ (List.mem_of_getElem? (i := 12) rfl)))) (mvT hZ (hw _ (List.mem_of_getElem? (i := 12) rfl))) (mvT hZ (hw _ (List.mem_of_getElem? (i := 11) rfl))) (by decide) (backOf (W := 0) (rm3 l Z a0 hw [] b1 (own_next (own_next (own_next (own_next (0 : Int32) (p0 &&& (255 : Int32))) (p1 &&& (255 : Int32))) (p2 &&& (255 : Int32))) (p3 &&& (255 : Int32))) (if (0 : Int32) < (own_next (own_next (own_next (own_next (0 : Int32) (p0 &&& (255 : Int32))) (p1 &&& (255 : Int32))) (p2 &&& (255 : Int32))) (p3 &&& (255 : Int32))) then (1 : Int32) else (0 : Int32)) T17.heap n0 Z18 Fp17 rfl) hZ (hw _ (List.mem_of_getElem? (i := 13) rfl)) (hw _ (List.mem_of_getElem? (i := 2) rfl)) (by decide) (by decide)) q20a q20c (g := (mkF m 204 #[.val (.int p0), .val (.int p1), .val (.int p2), .val (.int p3), .val (.ref b1), .val (.int (1 : Int32)), .val (.int (own_next (own_next (own_next (own_next (0 : Int32) (p0 &&& (255 : Int32))) (p1 &&& (255 : Int32))) (p2 &&& (255 : Int32))) (p3 &&& (255 : Int32))))] [(.ref b1)])) rfl (by rw [hml]; rfl) (Steps.refl _) (argsL := []) (rest := []) (lenOf pd_3 rfl) rfl (by show 2 * 0 + _ ≤ _; exact Nat.le_of_eq rfl) (hb hby at_204) (fun _ _ => ⟨rfl, e19, (by decide : 1 + 0 ≤ _), (by decide : 3 + 0 ≤ _)⟩)
  dsimp only [Pt.U, Pt.locs, Pt.cells, Pt.slots] at X20 l20 y20 z20 st20 hQ20
  subst l20 y20 z20
  obtain ⟨rfl, Nq20, hh20⟩ := hQ20
  have N20 := Fr.app N19 Nq20
  have e20 : T20.heap = T17.heap := hh20
  have pre21 : ∀ t, Steps p.tables e below (T20.setTop (mkF m 229 #[.val (.int p0), .val (.int p1), .val (.int p2), .val (.int p3), .val (.ref b1), .val (.int (1 : Int32)), .val (.int (own_next (own_next (own_next (own_next (0 : Int32) (p0 &&& (255 : Int32))) (p1 &&& (255 : Int32))) (p2 &&& (255 : Int32))) (p3 &&& (255 : Int32))))] [(.int (1 : Int32))])) t → Steps p.tables e below (s₁.setTop (entryFrame m #[(.int p0), (.int p1), (.int p2), (.int p3)] maxLocals)) t := fun t k => by
    refine pre0 t ?_
    show Steps p.tables e below (s₁.setTop (mkF m 0 #[.val (.int p0), .val (.int p1), .val (.int p2), .val (.int p3), .unset, .unset, .unset] [])) _
    refine st1 _ ?_
    show Steps p.tables e below (T1.setTop (mkF m 3 #[.val (.int p0), .val (.int p1), .val (.int p2), .val (.int p3), .unset, .unset, .unset] [(.ref b1)])) _
    refine XS.dup X1.here hx rfl (hb hby at_3) rfl rfl ?_
    show Steps p.tables e below (T1.setTop (mkF m 4 #[.val (.int p0), .val (.int p1), .val (.int p2), .val (.int p3), .unset, .unset, .unset] [(.ref b1), (.ref b1)])) _
    refine st3.trans ?_
    show Steps p.tables e below (T3.setTop (mkF m 7 #[.val (.int p0), .val (.int p1), .val (.int p2), .val (.int p3), .unset, .unset, .unset] [(.ref b1)])) _
    refine XS.astore X3.here hx rfl (hb hby at_7) rfl rfl (l' := #[.val (.int p0), .val (.int p1), .val (.int p2), .val (.int p3), .val (.ref b1), .unset, .unset]) rfl ?_
    show Steps p.tables e below (T3.setTop (mkF m 9 #[.val (.int p0), .val (.int p1), .val (.int p2), .val (.int p3), .val (.ref b1), .unset, .unset] [])) _
    refine XS.aload X3.here hx rfl (hb hby at_9) rfl rfl ?_
    show Steps p.tables e below (T3.setTop (mkF m 11 #[.val (.int p0), .val (.int p1), .val (.int p2), .val (.int p3), .val (.ref b1), .unset, .unset] [(.ref b1)])) _
    refine st4.trans ?_
    show Steps p.tables e below (T4.setTop (mkF m 14 #[.val (.int p0), .val (.int p1), .val (.int p2), .val (.int p3), .val (.ref b1), .unset, .unset] [(.int (0 : Int32))])) _
    refine XS.ifNo X4.here hx rfl (hb hby at_14) rfl ((if0 _ _).trans (teq (by decide : (0 : Int32) = (0 : Int32))).2) ?_
    show Steps p.tables e below (T4.setTop (mkF m 17 #[.val (.int p0), .val (.int p1), .val (.int p2), .val (.int p3), .val (.ref b1), .unset, .unset] [])) _
    refine XS.iconst X4.here hx rfl (hb hby at_17) ?_
    show Steps p.tables e below (T4.setTop (mkF m 18 #[.val (.int p0), .val (.int p1), .val (.int p2), .val (.int p3), .val (.ref b1), .unset, .unset] [(.int (1 : Int32))])) _
    refine XS.goto X4.here hx rfl (pc0 := 18) (pc' := 22) rfl (hb hby at_18) (by decide) (by decide) ?_
    show Steps p.tables e below (T4.setTop (mkF m 22 #[.val (.int p0), .val (.int p1), .val (.int p2), .val (.int p3), .val (.ref b1), .unset, .unset] [(.int (1 : Int32))])) _
    refine XS.istore X4.here hx rfl (hb hby at_22) rfl (l' := #[.val (.int p0), .val (.int p1), .val (.int p2), .val (.int p3), .val (.ref b1), .val (.int (1 : Int32)), .unset]) rfl ?_
    show Steps p.tables e below (T4.setTop (mkF m 24 #[.val (.int p0), .val (.int p1), .val (.int p2), .val (.int p3), .val (.ref b1), .val (.int (1 : Int32)), .unset] [])) _
    refine XS.iconst X4.here hx rfl (hb hby at_24) ?_
    show Steps p.tables e below (T4.setTop (mkF m 25 #[.val (.int p0), .val (.int p1), .val (.int p2), .val (.int p3), .val (.ref b1), .val (.int (1 : Int32)), .unset] [(.int (0 : Int32))])) _
    refine XS.istore X4.here hx rfl (hb hby at_25) rfl (l' := #[.val (.int p0), .val (.int p1), .val (.int p2), .val (.int p3), .val (.ref b1), .val (.int (1 : Int32)), .val (.int (0 : Int32))]) rfl ?_
    show Steps p.tables e below (T4.setTop (mkF m 27 #[.val (.int p0), .val (.int p1), .val (.int p2), .val (.int p3), .val (.ref b1), .val (.int (1 : Int32)), .val (.int (0 : Int32))] [])) _
    refine XS.aload X4.here hx rfl (hb hby at_27) rfl rfl ?_
    show Steps p.tables e below (T4.setTop (mkF m 29 #[.val (.int p0), .val (.int p1), .val (.int p2), .val (.int p3), .val (.ref b1), .val (.int (1 : Int32)), .val (.int (0 : Int32))] [(.ref b1)])) _
    refine XS.iloadN X4.here hx rfl (hb hby at_29) rfl ?_
    show Steps p.tables e below (T4.setTop (mkF m 30 #[.val (.int p0), .val (.int p1), .val (.int p2), .val (.int p3), .val (.ref b1), .val (.int (1 : Int32)), .val (.int (0 : Int32))] [(.int p0), (.ref b1)])) _
    refine XS.i2b X4.here hx rfl (hb hby at_30) rfl ?_
    show Steps p.tables e below (T4.setTop (mkF m 31 #[.val (.int p0), .val (.int p1), .val (.int p2), .val (.int p3), .val (.ref b1), .val (.int (1 : Int32)), .val (.int (0 : Int32))] [(.int (p0.toInt8.toInt32)), (.ref b1)])) _
    refine st5.trans ?_
    show Steps p.tables e below (T5.setTop (mkF m 34 #[.val (.int p0), .val (.int p1), .val (.int p2), .val (.int p3), .val (.ref b1), .val (.int (1 : Int32)), .val (.int (0 : Int32))] [(.int r5)])) _
    refine XS.pop X5.here hx rfl (hb hby at_34) rfl rfl ?_
    show Steps p.tables e below (T5.setTop (mkF m 35 #[.val (.int p0), .val (.int p1), .val (.int p2), .val (.int p3), .val (.ref b1), .val (.int (1 : Int32)), .val (.int (0 : Int32))] [])) _
    refine XS.iload X5.here hx rfl (hb hby at_35) rfl ?_
    show Steps p.tables e below (T5.setTop (mkF m 37 #[.val (.int p0), .val (.int p1), .val (.int p2), .val (.int p3), .val (.ref b1), .val (.int (1 : Int32)), .val (.int (0 : Int32))] [(.int (0 : Int32))])) _
    refine XS.iloadN X5.here hx rfl (hb hby at_37) rfl ?_
    show Steps p.tables e below (T5.setTop (mkF m 38 #[.val (.int p0), .val (.int p1), .val (.int p2), .val (.int p3), .val (.ref b1), .val (.int (1 : Int32)), .val (.int (0 : Int32))] [(.int p0), (.int (0 : Int32))])) _
    refine XS.sipush X5.here hx rfl (hb hby at_38) ?_
    show Steps p.tables e below (T5.setTop (mkF m 41 #[.val (.int p0), .val (.int p1), .val (.int p2), .val (.int p3), .val (.ref b1), .val (.int (1 : Int32)), .val (.int (0 : Int32))] [(.int (255 : Int32)), (.int p0), (.int (0 : Int32))])) _
    refine XS.iand X5.here hx rfl (hb hby at_41) rfl ?_
    show Steps p.tables e below (T5.setTop (mkF m 42 #[.val (.int p0), .val (.int p1), .val (.int p2), .val (.int p3), .val (.ref b1), .val (.int (1 : Int32)), .val (.int (0 : Int32))] [(.int (p0 &&& (255 : Int32))), (.int (0 : Int32))])) _
    refine st7 _ ?_
    show Steps p.tables e below (T7.setTop (mkF m 45 #[.val (.int p0), .val (.int p1), .val (.int p2), .val (.int p3), .val (.ref b1), .val (.int (1 : Int32)), .val (.int (0 : Int32))] [(.int (own_next (0 : Int32) (p0 &&& (255 : Int32))))])) _
    refine XS.istore X7.here hx rfl (hb hby at_45) rfl (l' := #[.val (.int p0), .val (.int p1), .val (.int p2), .val (.int p3), .val (.ref b1), .val (.int (1 : Int32)), .val (.int (own_next (0 : Int32) (p0 &&& (255 : Int32))))]) rfl ?_
    show Steps p.tables e below (T7.setTop (mkF m 47 #[.val (.int p0), .val (.int p1), .val (.int p2), .val (.int p3), .val (.ref b1), .val (.int (1 : Int32)), .val (.int (own_next (0 : Int32) (p0 &&& (255 : Int32))))] [])) _
    refine XS.iload X7.here hx rfl (hb hby at_47) rfl ?_
    show Steps p.tables e below (T7.setTop (mkF m 49 #[.val (.int p0), .val (.int p1), .val (.int p2), .val (.int p3), .val (.ref b1), .val (.int (1 : Int32)), .val (.int (own_next (0 : Int32) (p0 &&& (255 : Int32))))] [(.int (1 : Int32))])) _
    refine XS.ifNo X7.here hx rfl (hb hby at_49) rfl ((if0 _ _).trans (feq (by decide : ¬ ((1 : Int32) = (0 : Int32)))).1) ?_
    show Steps p.tables e below (T7.setTop (mkF m 52 #[.val (.int p0), .val (.int p1), .val (.int p2), .val (.int p3), .val (.ref b1), .val (.int (1 : Int32)), .val (.int (own_next (0 : Int32) (p0 &&& (255 : Int32))))] [])) _
    refine XS.aload X7.here hx rfl (hb hby at_52) rfl rfl ?_
    show Steps p.tables e below (T7.setTop (mkF m 54 #[.val (.int p0), .val (.int p1), .val (.int p2), .val (.int p3), .val (.ref b1), .val (.int (1 : Int32)), .val (.int (own_next (0 : Int32) (p0 &&& (255 : Int32))))] [(.ref b1)])) _
    refine st8.trans ?_
    show Steps p.tables e below (T8.setTop (mkF m 57 #[.val (.int p0), .val (.int p1), .val (.int p2), .val (.int p3), .val (.ref b1), .val (.int (1 : Int32)), .val (.int (own_next (0 : Int32) (p0 &&& (255 : Int32))))] [(.int (if (0 : Int32) < (own_next (0 : Int32) (p0 &&& (255 : Int32))) then (1 : Int32) else (0 : Int32)))])) _
    refine XS.iload X8.here hx rfl (hb hby at_57) rfl ?_
    show Steps p.tables e below (T8.setTop (mkF m 59 #[.val (.int p0), .val (.int p1), .val (.int p2), .val (.int p3), .val (.ref b1), .val (.int (1 : Int32)), .val (.int (own_next (0 : Int32) (p0 &&& (255 : Int32))))] [(.int (own_next (0 : Int32) (p0 &&& (255 : Int32)))), (.int (if (0 : Int32) < (own_next (0 : Int32) (p0 &&& (255 : Int32))) then (1 : Int32) else (0 : Int32)))])) _
    refine own_boolI (g := (mkF m 59 #[.val (.int p0), .val (.int p1), .val (.int p2), .val (.int p3), .val (.ref b1), .val (.int (1 : Int32)), .val (.int (own_next (0 : Int32) (p0 &&& (255 : Int32))))] [(.int (own_next (0 : Int32) (p0 &&& (255 : Int32)))), (.int (if (0 : Int32) < (own_next (0 : Int32) (p0 &&& (255 : Int32))) then (1 : Int32) else (0 : Int32)))])) X8.here hx rfl (hb hby at_59) (hb hby at_62) (hb hby at_63) (hb hby at_66) rfl (by exact own_b_le _ _) ?_
    show Steps p.tables e below (T8.setTop (mkF m 67 #[.val (.int p0), .val (.int p1), .val (.int p2), .val (.int p3), .val (.ref b1), .val (.int (1 : Int32)), .val (.int (own_next (0 : Int32) (p0 &&& (255 : Int32))))] [(.int (if (0 : Int32) < (own_next (0 : Int32) (p0 &&& (255 : Int32))) then (1 : Int32) else (0 : Int32))), (.int (if (0 : Int32) < (own_next (0 : Int32) (p0 &&& (255 : Int32))) then (1 : Int32) else (0 : Int32)))])) _
    refine XS.icmpNo X8.here hx rfl (hb hby at_67) rfl (teq (rfl : (if (0 : Int32) < (own_next (0 : Int32) (p0 &&& (255 : Int32))) then (1 : Int32) else (0 : Int32)) = (if (0 : Int32) < (own_next (0 : Int32) (p0 &&& (255 : Int32))) then (1 : Int32) else (0 : Int32)))).2 ?_
    show Steps p.tables e below (T8.setTop (mkF m 70 #[.val (.int p0), .val (.int p1), .val (.int p2), .val (.int p3), .val (.ref b1), .val (.int (1 : Int32)), .val (.int (own_next (0 : Int32) (p0 &&& (255 : Int32))))] [])) _
    refine XS.iconst X8.here hx rfl (hb hby at_70) ?_
    show Steps p.tables e below (T8.setTop (mkF m 71 #[.val (.int p0), .val (.int p1), .val (.int p2), .val (.int p3), .val (.ref b1), .val (.int (1 : Int32)), .val (.int (own_next (0 : Int32) (p0 &&& (255 : Int32))))] [(.int (1 : Int32))])) _
    refine XS.goto X8.here hx rfl (pc0 := 71) (pc' := 75) rfl (hb hby at_71) (by decide) (by decide) ?_
    show Steps p.tables e below (T8.setTop (mkF m 75 #[.val (.int p0), .val (.int p1), .val (.int p2), .val (.int p3), .val (.ref b1), .val (.int (1 : Int32)), .val (.int (own_next (0 : Int32) (p0 &&& (255 : Int32))))] [(.int (1 : Int32))])) _
    refine XS.istore X8.here hx rfl (hb hby at_75) rfl (l' := #[.val (.int p0), .val (.int p1), .val (.int p2), .val (.int p3), .val (.ref b1), .val (.int (1 : Int32)), .val (.int (own_next (0 : Int32) (p0 &&& (255 : Int32))))]) rfl ?_
    show Steps p.tables e below (T8.setTop (mkF m 77 #[.val (.int p0), .val (.int p1), .val (.int p2), .val (.int p3), .val (.ref b1), .val (.int (1 : Int32)), .val (.int (own_next (0 : Int32) (p0 &&& (255 : Int32))))] [])) _
    refine XS.aload X8.here hx rfl (hb hby at_77) rfl rfl ?_
    show Steps p.tables e below (T8.setTop (mkF m 79 #[.val (.int p0), .val (.int p1), .val (.int p2), .val (.int p3), .val (.ref b1), .val (.int (1 : Int32)), .val (.int (own_next (0 : Int32) (p0 &&& (255 : Int32))))] [(.ref b1)])) _
    refine XS.iloadN X8.here hx rfl (hb hby at_79) rfl ?_
    show Steps p.tables e below (T8.setTop (mkF m 80 #[.val (.int p0), .val (.int p1), .val (.int p2), .val (.int p3), .val (.ref b1), .val (.int (1 : Int32)), .val (.int (own_next (0 : Int32) (p0 &&& (255 : Int32))))] [(.int p1), (.ref b1)])) _
    refine XS.i2b X8.here hx rfl (hb hby at_80) rfl ?_
    show Steps p.tables e below (T8.setTop (mkF m 81 #[.val (.int p0), .val (.int p1), .val (.int p2), .val (.int p3), .val (.ref b1), .val (.int (1 : Int32)), .val (.int (own_next (0 : Int32) (p0 &&& (255 : Int32))))] [(.int (p1.toInt8.toInt32)), (.ref b1)])) _
    refine st9.trans ?_
    show Steps p.tables e below (T9.setTop (mkF m 84 #[.val (.int p0), .val (.int p1), .val (.int p2), .val (.int p3), .val (.ref b1), .val (.int (1 : Int32)), .val (.int (own_next (0 : Int32) (p0 &&& (255 : Int32))))] [(.int r9)])) _
    refine XS.pop X9.here hx rfl (hb hby at_84) rfl rfl ?_
    show Steps p.tables e below (T9.setTop (mkF m 85 #[.val (.int p0), .val (.int p1), .val (.int p2), .val (.int p3), .val (.ref b1), .val (.int (1 : Int32)), .val (.int (own_next (0 : Int32) (p0 &&& (255 : Int32))))] [])) _
    refine XS.iload X9.here hx rfl (hb hby at_85) rfl ?_
    show Steps p.tables e below (T9.setTop (mkF m 87 #[.val (.int p0), .val (.int p1), .val (.int p2), .val (.int p3), .val (.ref b1), .val (.int (1 : Int32)), .val (.int (own_next (0 : Int32) (p0 &&& (255 : Int32))))] [(.int (own_next (0 : Int32) (p0 &&& (255 : Int32))))])) _
    refine XS.iloadN X9.here hx rfl (hb hby at_87) rfl ?_
    show Steps p.tables e below (T9.setTop (mkF m 88 #[.val (.int p0), .val (.int p1), .val (.int p2), .val (.int p3), .val (.ref b1), .val (.int (1 : Int32)), .val (.int (own_next (0 : Int32) (p0 &&& (255 : Int32))))] [(.int p1), (.int (own_next (0 : Int32) (p0 &&& (255 : Int32))))])) _
    refine XS.sipush X9.here hx rfl (hb hby at_88) ?_
    show Steps p.tables e below (T9.setTop (mkF m 91 #[.val (.int p0), .val (.int p1), .val (.int p2), .val (.int p3), .val (.ref b1), .val (.int (1 : Int32)), .val (.int (own_next (0 : Int32) (p0 &&& (255 : Int32))))] [(.int (255 : Int32)), (.int p1), (.int (own_next (0 : Int32) (p0 &&& (255 : Int32))))])) _
    refine XS.iand X9.here hx rfl (hb hby at_91) rfl ?_
    show Steps p.tables e below (T9.setTop (mkF m 92 #[.val (.int p0), .val (.int p1), .val (.int p2), .val (.int p3), .val (.ref b1), .val (.int (1 : Int32)), .val (.int (own_next (0 : Int32) (p0 &&& (255 : Int32))))] [(.int (p1 &&& (255 : Int32))), (.int (own_next (0 : Int32) (p0 &&& (255 : Int32))))])) _
    refine st11 _ ?_
    show Steps p.tables e below (T11.setTop (mkF m 95 #[.val (.int p0), .val (.int p1), .val (.int p2), .val (.int p3), .val (.ref b1), .val (.int (1 : Int32)), .val (.int (own_next (0 : Int32) (p0 &&& (255 : Int32))))] [(.int (own_next (own_next (0 : Int32) (p0 &&& (255 : Int32))) (p1 &&& (255 : Int32))))])) _
    refine XS.istore X11.here hx rfl (hb hby at_95) rfl (l' := #[.val (.int p0), .val (.int p1), .val (.int p2), .val (.int p3), .val (.ref b1), .val (.int (1 : Int32)), .val (.int (own_next (own_next (0 : Int32) (p0 &&& (255 : Int32))) (p1 &&& (255 : Int32))))]) rfl ?_
    show Steps p.tables e below (T11.setTop (mkF m 97 #[.val (.int p0), .val (.int p1), .val (.int p2), .val (.int p3), .val (.ref b1), .val (.int (1 : Int32)), .val (.int (own_next (own_next (0 : Int32) (p0 &&& (255 : Int32))) (p1 &&& (255 : Int32))))] [])) _
    refine XS.iload X11.here hx rfl (hb hby at_97) rfl ?_
    show Steps p.tables e below (T11.setTop (mkF m 99 #[.val (.int p0), .val (.int p1), .val (.int p2), .val (.int p3), .val (.ref b1), .val (.int (1 : Int32)), .val (.int (own_next (own_next (0 : Int32) (p0 &&& (255 : Int32))) (p1 &&& (255 : Int32))))] [(.int (1 : Int32))])) _
    refine XS.ifNo X11.here hx rfl (hb hby at_99) rfl ((if0 _ _).trans (feq (by decide : ¬ ((1 : Int32) = (0 : Int32)))).1) ?_
    show Steps p.tables e below (T11.setTop (mkF m 102 #[.val (.int p0), .val (.int p1), .val (.int p2), .val (.int p3), .val (.ref b1), .val (.int (1 : Int32)), .val (.int (own_next (own_next (0 : Int32) (p0 &&& (255 : Int32))) (p1 &&& (255 : Int32))))] [])) _
    refine XS.aload X11.here hx rfl (hb hby at_102) rfl rfl ?_
    show Steps p.tables e below (T11.setTop (mkF m 104 #[.val (.int p0), .val (.int p1), .val (.int p2), .val (.int p3), .val (.ref b1), .val (.int (1 : Int32)), .val (.int (own_next (own_next (0 : Int32) (p0 &&& (255 : Int32))) (p1 &&& (255 : Int32))))] [(.ref b1)])) _
    refine st12.trans ?_
    show Steps p.tables e below (T12.setTop (mkF m 107 #[.val (.int p0), .val (.int p1), .val (.int p2), .val (.int p3), .val (.ref b1), .val (.int (1 : Int32)), .val (.int (own_next (own_next (0 : Int32) (p0 &&& (255 : Int32))) (p1 &&& (255 : Int32))))] [(.int (if (0 : Int32) < (own_next (own_next (0 : Int32) (p0 &&& (255 : Int32))) (p1 &&& (255 : Int32))) then (1 : Int32) else (0 : Int32)))])) _
    refine XS.iload X12.here hx rfl (hb hby at_107) rfl ?_
    show Steps p.tables e below (T12.setTop (mkF m 109 #[.val (.int p0), .val (.int p1), .val (.int p2), .val (.int p3), .val (.ref b1), .val (.int (1 : Int32)), .val (.int (own_next (own_next (0 : Int32) (p0 &&& (255 : Int32))) (p1 &&& (255 : Int32))))] [(.int (own_next (own_next (0 : Int32) (p0 &&& (255 : Int32))) (p1 &&& (255 : Int32)))), (.int (if (0 : Int32) < (own_next (own_next (0 : Int32) (p0 &&& (255 : Int32))) (p1 &&& (255 : Int32))) then (1 : Int32) else (0 : Int32)))])) _
    refine own_boolI (g := (mkF m 109 #[.val (.int p0), .val (.int p1), .val (.int p2), .val (.int p3), .val (.ref b1), .val (.int (1 : Int32)), .val (.int (own_next (own_next (0 : Int32) (p0 &&& (255 : Int32))) (p1 &&& (255 : Int32))))] [(.int (own_next (own_next (0 : Int32) (p0 &&& (255 : Int32))) (p1 &&& (255 : Int32)))), (.int (if (0 : Int32) < (own_next (own_next (0 : Int32) (p0 &&& (255 : Int32))) (p1 &&& (255 : Int32))) then (1 : Int32) else (0 : Int32)))])) X12.here hx rfl (hb hby at_109) (hb hby at_112) (hb hby at_113) (hb hby at_116) rfl (by exact own_b_le _ _) ?_
    show Steps p.tables e below (T12.setTop (mkF m 117 #[.val (.int p0), .val (.int p1), .val (.int p2), .val (.int p3), .val (.ref b1), .val (.int (1 : Int32)), .val (.int (own_next (own_next (0 : Int32) (p0 &&& (255 : Int32))) (p1 &&& (255 : Int32))))] [(.int (if (0 : Int32) < (own_next (own_next (0 : Int32) (p0 &&& (255 : Int32))) (p1 &&& (255 : Int32))) then (1 : Int32) else (0 : Int32))), (.int (if (0 : Int32) < (own_next (own_next (0 : Int32) (p0 &&& (255 : Int32))) (p1 &&& (255 : Int32))) then (1 : Int32) else (0 : Int32)))])) _
    refine XS.icmpNo X12.here hx rfl (hb hby at_117) rfl (teq (rfl : (if (0 : Int32) < (own_next (own_next (0 : Int32) (p0 &&& (255 : Int32))) (p1 &&& (255 : Int32))) then (1 : Int32) else (0 : Int32)) = (if (0 : Int32) < (own_next (own_next (0 : Int32) (p0 &&& (255 : Int32))) (p1 &&& (255 : Int32))) then (1 : Int32) else (0 : Int32)))).2 ?_
    show Steps p.tables e below (T12.setTop (mkF m 120 #[.val (.int p0), .val (.int p1), .val (.int p2), .val (.int p3), .val (.ref b1), .val (.int (1 : Int32)), .val (.int (own_next (own_next (0 : Int32) (p0 &&& (255 : Int32))) (p1 &&& (255 : Int32))))] [])) _
    refine XS.iconst X12.here hx rfl (hb hby at_120) ?_
    show Steps p.tables e below (T12.setTop (mkF m 121 #[.val (.int p0), .val (.int p1), .val (.int p2), .val (.int p3), .val (.ref b1), .val (.int (1 : Int32)), .val (.int (own_next (own_next (0 : Int32) (p0 &&& (255 : Int32))) (p1 &&& (255 : Int32))))] [(.int (1 : Int32))])) _
    refine XS.goto X12.here hx rfl (pc0 := 121) (pc' := 125) rfl (hb hby at_121) (by decide) (by decide) ?_
    show Steps p.tables e below (T12.setTop (mkF m 125 #[.val (.int p0), .val (.int p1), .val (.int p2), .val (.int p3), .val (.ref b1), .val (.int (1 : Int32)), .val (.int (own_next (own_next (0 : Int32) (p0 &&& (255 : Int32))) (p1 &&& (255 : Int32))))] [(.int (1 : Int32))])) _
    refine XS.istore X12.here hx rfl (hb hby at_125) rfl (l' := #[.val (.int p0), .val (.int p1), .val (.int p2), .val (.int p3), .val (.ref b1), .val (.int (1 : Int32)), .val (.int (own_next (own_next (0 : Int32) (p0 &&& (255 : Int32))) (p1 &&& (255 : Int32))))]) rfl ?_
    show Steps p.tables e below (T12.setTop (mkF m 127 #[.val (.int p0), .val (.int p1), .val (.int p2), .val (.int p3), .val (.ref b1), .val (.int (1 : Int32)), .val (.int (own_next (own_next (0 : Int32) (p0 &&& (255 : Int32))) (p1 &&& (255 : Int32))))] [])) _
    refine XS.aload X12.here hx rfl (hb hby at_127) rfl rfl ?_
    show Steps p.tables e below (T12.setTop (mkF m 129 #[.val (.int p0), .val (.int p1), .val (.int p2), .val (.int p3), .val (.ref b1), .val (.int (1 : Int32)), .val (.int (own_next (own_next (0 : Int32) (p0 &&& (255 : Int32))) (p1 &&& (255 : Int32))))] [(.ref b1)])) _
    refine XS.iloadN X12.here hx rfl (hb hby at_129) rfl ?_
    show Steps p.tables e below (T12.setTop (mkF m 130 #[.val (.int p0), .val (.int p1), .val (.int p2), .val (.int p3), .val (.ref b1), .val (.int (1 : Int32)), .val (.int (own_next (own_next (0 : Int32) (p0 &&& (255 : Int32))) (p1 &&& (255 : Int32))))] [(.int p2), (.ref b1)])) _
    refine XS.i2b X12.here hx rfl (hb hby at_130) rfl ?_
    show Steps p.tables e below (T12.setTop (mkF m 131 #[.val (.int p0), .val (.int p1), .val (.int p2), .val (.int p3), .val (.ref b1), .val (.int (1 : Int32)), .val (.int (own_next (own_next (0 : Int32) (p0 &&& (255 : Int32))) (p1 &&& (255 : Int32))))] [(.int (p2.toInt8.toInt32)), (.ref b1)])) _
    refine st13.trans ?_
    show Steps p.tables e below (T13.setTop (mkF m 134 #[.val (.int p0), .val (.int p1), .val (.int p2), .val (.int p3), .val (.ref b1), .val (.int (1 : Int32)), .val (.int (own_next (own_next (0 : Int32) (p0 &&& (255 : Int32))) (p1 &&& (255 : Int32))))] [(.int r13)])) _
    refine XS.pop X13.here hx rfl (hb hby at_134) rfl rfl ?_
    show Steps p.tables e below (T13.setTop (mkF m 135 #[.val (.int p0), .val (.int p1), .val (.int p2), .val (.int p3), .val (.ref b1), .val (.int (1 : Int32)), .val (.int (own_next (own_next (0 : Int32) (p0 &&& (255 : Int32))) (p1 &&& (255 : Int32))))] [])) _
    refine XS.iload X13.here hx rfl (hb hby at_135) rfl ?_
    show Steps p.tables e below (T13.setTop (mkF m 137 #[.val (.int p0), .val (.int p1), .val (.int p2), .val (.int p3), .val (.ref b1), .val (.int (1 : Int32)), .val (.int (own_next (own_next (0 : Int32) (p0 &&& (255 : Int32))) (p1 &&& (255 : Int32))))] [(.int (own_next (own_next (0 : Int32) (p0 &&& (255 : Int32))) (p1 &&& (255 : Int32))))])) _
    refine XS.iloadN X13.here hx rfl (hb hby at_137) rfl ?_
    show Steps p.tables e below (T13.setTop (mkF m 138 #[.val (.int p0), .val (.int p1), .val (.int p2), .val (.int p3), .val (.ref b1), .val (.int (1 : Int32)), .val (.int (own_next (own_next (0 : Int32) (p0 &&& (255 : Int32))) (p1 &&& (255 : Int32))))] [(.int p2), (.int (own_next (own_next (0 : Int32) (p0 &&& (255 : Int32))) (p1 &&& (255 : Int32))))])) _
    refine XS.sipush X13.here hx rfl (hb hby at_138) ?_
    show Steps p.tables e below (T13.setTop (mkF m 141 #[.val (.int p0), .val (.int p1), .val (.int p2), .val (.int p3), .val (.ref b1), .val (.int (1 : Int32)), .val (.int (own_next (own_next (0 : Int32) (p0 &&& (255 : Int32))) (p1 &&& (255 : Int32))))] [(.int (255 : Int32)), (.int p2), (.int (own_next (own_next (0 : Int32) (p0 &&& (255 : Int32))) (p1 &&& (255 : Int32))))])) _
    refine XS.iand X13.here hx rfl (hb hby at_141) rfl ?_
    show Steps p.tables e below (T13.setTop (mkF m 142 #[.val (.int p0), .val (.int p1), .val (.int p2), .val (.int p3), .val (.ref b1), .val (.int (1 : Int32)), .val (.int (own_next (own_next (0 : Int32) (p0 &&& (255 : Int32))) (p1 &&& (255 : Int32))))] [(.int (p2 &&& (255 : Int32))), (.int (own_next (own_next (0 : Int32) (p0 &&& (255 : Int32))) (p1 &&& (255 : Int32))))])) _
    refine st15 _ ?_
    show Steps p.tables e below (T15.setTop (mkF m 145 #[.val (.int p0), .val (.int p1), .val (.int p2), .val (.int p3), .val (.ref b1), .val (.int (1 : Int32)), .val (.int (own_next (own_next (0 : Int32) (p0 &&& (255 : Int32))) (p1 &&& (255 : Int32))))] [(.int (own_next (own_next (own_next (0 : Int32) (p0 &&& (255 : Int32))) (p1 &&& (255 : Int32))) (p2 &&& (255 : Int32))))])) _
    refine XS.istore X15.here hx rfl (hb hby at_145) rfl (l' := #[.val (.int p0), .val (.int p1), .val (.int p2), .val (.int p3), .val (.ref b1), .val (.int (1 : Int32)), .val (.int (own_next (own_next (own_next (0 : Int32) (p0 &&& (255 : Int32))) (p1 &&& (255 : Int32))) (p2 &&& (255 : Int32))))]) rfl ?_
    show Steps p.tables e below (T15.setTop (mkF m 147 #[.val (.int p0), .val (.int p1), .val (.int p2), .val (.int p3), .val (.ref b1), .val (.int (1 : Int32)), .val (.int (own_next (own_next (own_next (0 : Int32) (p0 &&& (255 : Int32))) (p1 &&& (255 : Int32))) (p2 &&& (255 : Int32))))] [])) _
    refine XS.iload X15.here hx rfl (hb hby at_147) rfl ?_
    show Steps p.tables e below (T15.setTop (mkF m 149 #[.val (.int p0), .val (.int p1), .val (.int p2), .val (.int p3), .val (.ref b1), .val (.int (1 : Int32)), .val (.int (own_next (own_next (own_next (0 : Int32) (p0 &&& (255 : Int32))) (p1 &&& (255 : Int32))) (p2 &&& (255 : Int32))))] [(.int (1 : Int32))])) _
    refine XS.ifNo X15.here hx rfl (hb hby at_149) rfl ((if0 _ _).trans (feq (by decide : ¬ ((1 : Int32) = (0 : Int32)))).1) ?_
    show Steps p.tables e below (T15.setTop (mkF m 152 #[.val (.int p0), .val (.int p1), .val (.int p2), .val (.int p3), .val (.ref b1), .val (.int (1 : Int32)), .val (.int (own_next (own_next (own_next (0 : Int32) (p0 &&& (255 : Int32))) (p1 &&& (255 : Int32))) (p2 &&& (255 : Int32))))] [])) _
    refine XS.aload X15.here hx rfl (hb hby at_152) rfl rfl ?_
    show Steps p.tables e below (T15.setTop (mkF m 154 #[.val (.int p0), .val (.int p1), .val (.int p2), .val (.int p3), .val (.ref b1), .val (.int (1 : Int32)), .val (.int (own_next (own_next (own_next (0 : Int32) (p0 &&& (255 : Int32))) (p1 &&& (255 : Int32))) (p2 &&& (255 : Int32))))] [(.ref b1)])) _
    refine st16.trans ?_
    show Steps p.tables e below (T16.setTop (mkF m 157 #[.val (.int p0), .val (.int p1), .val (.int p2), .val (.int p3), .val (.ref b1), .val (.int (1 : Int32)), .val (.int (own_next (own_next (own_next (0 : Int32) (p0 &&& (255 : Int32))) (p1 &&& (255 : Int32))) (p2 &&& (255 : Int32))))] [(.int (if (0 : Int32) < (own_next (own_next (own_next (0 : Int32) (p0 &&& (255 : Int32))) (p1 &&& (255 : Int32))) (p2 &&& (255 : Int32))) then (1 : Int32) else (0 : Int32)))])) _
    refine XS.iload X16.here hx rfl (hb hby at_157) rfl ?_
    show Steps p.tables e below (T16.setTop (mkF m 159 #[.val (.int p0), .val (.int p1), .val (.int p2), .val (.int p3), .val (.ref b1), .val (.int (1 : Int32)), .val (.int (own_next (own_next (own_next (0 : Int32) (p0 &&& (255 : Int32))) (p1 &&& (255 : Int32))) (p2 &&& (255 : Int32))))] [(.int (own_next (own_next (own_next (0 : Int32) (p0 &&& (255 : Int32))) (p1 &&& (255 : Int32))) (p2 &&& (255 : Int32)))), (.int (if (0 : Int32) < (own_next (own_next (own_next (0 : Int32) (p0 &&& (255 : Int32))) (p1 &&& (255 : Int32))) (p2 &&& (255 : Int32))) then (1 : Int32) else (0 : Int32)))])) _
    refine own_boolI (g := (mkF m 159 #[.val (.int p0), .val (.int p1), .val (.int p2), .val (.int p3), .val (.ref b1), .val (.int (1 : Int32)), .val (.int (own_next (own_next (own_next (0 : Int32) (p0 &&& (255 : Int32))) (p1 &&& (255 : Int32))) (p2 &&& (255 : Int32))))] [(.int (own_next (own_next (own_next (0 : Int32) (p0 &&& (255 : Int32))) (p1 &&& (255 : Int32))) (p2 &&& (255 : Int32)))), (.int (if (0 : Int32) < (own_next (own_next (own_next (0 : Int32) (p0 &&& (255 : Int32))) (p1 &&& (255 : Int32))) (p2 &&& (255 : Int32))) then (1 : Int32) else (0 : Int32)))])) X16.here hx rfl (hb hby at_159) (hb hby at_162) (hb hby at_163) (hb hby at_166) rfl (by exact own_b_le _ _) ?_
    show Steps p.tables e below (T16.setTop (mkF m 167 #[.val (.int p0), .val (.int p1), .val (.int p2), .val (.int p3), .val (.ref b1), .val (.int (1 : Int32)), .val (.int (own_next (own_next (own_next (0 : Int32) (p0 &&& (255 : Int32))) (p1 &&& (255 : Int32))) (p2 &&& (255 : Int32))))] [(.int (if (0 : Int32) < (own_next (own_next (own_next (0 : Int32) (p0 &&& (255 : Int32))) (p1 &&& (255 : Int32))) (p2 &&& (255 : Int32))) then (1 : Int32) else (0 : Int32))), (.int (if (0 : Int32) < (own_next (own_next (own_next (0 : Int32) (p0 &&& (255 : Int32))) (p1 &&& (255 : Int32))) (p2 &&& (255 : Int32))) then (1 : Int32) else (0 : Int32)))])) _
    refine XS.icmpNo X16.here hx rfl (hb hby at_167) rfl (teq (rfl : (if (0 : Int32) < (own_next (own_next (own_next (0 : Int32) (p0 &&& (255 : Int32))) (p1 &&& (255 : Int32))) (p2 &&& (255 : Int32))) then (1 : Int32) else (0 : Int32)) = (if (0 : Int32) < (own_next (own_next (own_next (0 : Int32) (p0 &&& (255 : Int32))) (p1 &&& (255 : Int32))) (p2 &&& (255 : Int32))) then (1 : Int32) else (0 : Int32)))).2 ?_
    show Steps p.tables e below (T16.setTop (mkF m 170 #[.val (.int p0), .val (.int p1), .val (.int p2), .val (.int p3), .val (.ref b1), .val (.int (1 : Int32)), .val (.int (own_next (own_next (own_next (0 : Int32) (p0 &&& (255 : Int32))) (p1 &&& (255 : Int32))) (p2 &&& (255 : Int32))))] [])) _
    refine XS.iconst X16.here hx rfl (hb hby at_170) ?_
    show Steps p.tables e below (T16.setTop (mkF m 171 #[.val (.int p0), .val (.int p1), .val (.int p2), .val (.int p3), .val (.ref b1), .val (.int (1 : Int32)), .val (.int (own_next (own_next (own_next (0 : Int32) (p0 &&& (255 : Int32))) (p1 &&& (255 : Int32))) (p2 &&& (255 : Int32))))] [(.int (1 : Int32))])) _
    refine XS.goto X16.here hx rfl (pc0 := 171) (pc' := 175) rfl (hb hby at_171) (by decide) (by decide) ?_
    show Steps p.tables e below (T16.setTop (mkF m 175 #[.val (.int p0), .val (.int p1), .val (.int p2), .val (.int p3), .val (.ref b1), .val (.int (1 : Int32)), .val (.int (own_next (own_next (own_next (0 : Int32) (p0 &&& (255 : Int32))) (p1 &&& (255 : Int32))) (p2 &&& (255 : Int32))))] [(.int (1 : Int32))])) _
    refine XS.istore X16.here hx rfl (hb hby at_175) rfl (l' := #[.val (.int p0), .val (.int p1), .val (.int p2), .val (.int p3), .val (.ref b1), .val (.int (1 : Int32)), .val (.int (own_next (own_next (own_next (0 : Int32) (p0 &&& (255 : Int32))) (p1 &&& (255 : Int32))) (p2 &&& (255 : Int32))))]) rfl ?_
    show Steps p.tables e below (T16.setTop (mkF m 177 #[.val (.int p0), .val (.int p1), .val (.int p2), .val (.int p3), .val (.ref b1), .val (.int (1 : Int32)), .val (.int (own_next (own_next (own_next (0 : Int32) (p0 &&& (255 : Int32))) (p1 &&& (255 : Int32))) (p2 &&& (255 : Int32))))] [])) _
    refine XS.aload X16.here hx rfl (hb hby at_177) rfl rfl ?_
    show Steps p.tables e below (T16.setTop (mkF m 179 #[.val (.int p0), .val (.int p1), .val (.int p2), .val (.int p3), .val (.ref b1), .val (.int (1 : Int32)), .val (.int (own_next (own_next (own_next (0 : Int32) (p0 &&& (255 : Int32))) (p1 &&& (255 : Int32))) (p2 &&& (255 : Int32))))] [(.ref b1)])) _
    refine XS.iloadN X16.here hx rfl (hb hby at_179) rfl ?_
    show Steps p.tables e below (T16.setTop (mkF m 180 #[.val (.int p0), .val (.int p1), .val (.int p2), .val (.int p3), .val (.ref b1), .val (.int (1 : Int32)), .val (.int (own_next (own_next (own_next (0 : Int32) (p0 &&& (255 : Int32))) (p1 &&& (255 : Int32))) (p2 &&& (255 : Int32))))] [(.int p3), (.ref b1)])) _
    refine XS.i2b X16.here hx rfl (hb hby at_180) rfl ?_
    show Steps p.tables e below (T16.setTop (mkF m 181 #[.val (.int p0), .val (.int p1), .val (.int p2), .val (.int p3), .val (.ref b1), .val (.int (1 : Int32)), .val (.int (own_next (own_next (own_next (0 : Int32) (p0 &&& (255 : Int32))) (p1 &&& (255 : Int32))) (p2 &&& (255 : Int32))))] [(.int (p3.toInt8.toInt32)), (.ref b1)])) _
    refine st17.trans ?_
    show Steps p.tables e below (T17.setTop (mkF m 184 #[.val (.int p0), .val (.int p1), .val (.int p2), .val (.int p3), .val (.ref b1), .val (.int (1 : Int32)), .val (.int (own_next (own_next (own_next (0 : Int32) (p0 &&& (255 : Int32))) (p1 &&& (255 : Int32))) (p2 &&& (255 : Int32))))] [(.int r17)])) _
    refine XS.pop X17.here hx rfl (hb hby at_184) rfl rfl ?_
    show Steps p.tables e below (T17.setTop (mkF m 185 #[.val (.int p0), .val (.int p1), .val (.int p2), .val (.int p3), .val (.ref b1), .val (.int (1 : Int32)), .val (.int (own_next (own_next (own_next (0 : Int32) (p0 &&& (255 : Int32))) (p1 &&& (255 : Int32))) (p2 &&& (255 : Int32))))] [])) _
    refine XS.iload X17.here hx rfl (hb hby at_185) rfl ?_
    show Steps p.tables e below (T17.setTop (mkF m 187 #[.val (.int p0), .val (.int p1), .val (.int p2), .val (.int p3), .val (.ref b1), .val (.int (1 : Int32)), .val (.int (own_next (own_next (own_next (0 : Int32) (p0 &&& (255 : Int32))) (p1 &&& (255 : Int32))) (p2 &&& (255 : Int32))))] [(.int (own_next (own_next (own_next (0 : Int32) (p0 &&& (255 : Int32))) (p1 &&& (255 : Int32))) (p2 &&& (255 : Int32))))])) _
    refine XS.iloadN X17.here hx rfl (hb hby at_187) rfl ?_
    show Steps p.tables e below (T17.setTop (mkF m 188 #[.val (.int p0), .val (.int p1), .val (.int p2), .val (.int p3), .val (.ref b1), .val (.int (1 : Int32)), .val (.int (own_next (own_next (own_next (0 : Int32) (p0 &&& (255 : Int32))) (p1 &&& (255 : Int32))) (p2 &&& (255 : Int32))))] [(.int p3), (.int (own_next (own_next (own_next (0 : Int32) (p0 &&& (255 : Int32))) (p1 &&& (255 : Int32))) (p2 &&& (255 : Int32))))])) _
    refine XS.sipush X17.here hx rfl (hb hby at_188) ?_
    show Steps p.tables e below (T17.setTop (mkF m 191 #[.val (.int p0), .val (.int p1), .val (.int p2), .val (.int p3), .val (.ref b1), .val (.int (1 : Int32)), .val (.int (own_next (own_next (own_next (0 : Int32) (p0 &&& (255 : Int32))) (p1 &&& (255 : Int32))) (p2 &&& (255 : Int32))))] [(.int (255 : Int32)), (.int p3), (.int (own_next (own_next (own_next (0 : Int32) (p0 &&& (255 : Int32))) (p1 &&& (255 : Int32))) (p2 &&& (255 : Int32))))])) _
    refine XS.iand X17.here hx rfl (hb hby at_191) rfl ?_
    show Steps p.tables e below (T17.setTop (mkF m 192 #[.val (.int p0), .val (.int p1), .val (.int p2), .val (.int p3), .val (.ref b1), .val (.int (1 : Int32)), .val (.int (own_next (own_next (own_next (0 : Int32) (p0 &&& (255 : Int32))) (p1 &&& (255 : Int32))) (p2 &&& (255 : Int32))))] [(.int (p3 &&& (255 : Int32))), (.int (own_next (own_next (own_next (0 : Int32) (p0 &&& (255 : Int32))) (p1 &&& (255 : Int32))) (p2 &&& (255 : Int32))))])) _
    refine st19 _ ?_
    show Steps p.tables e below (T19.setTop (mkF m 195 #[.val (.int p0), .val (.int p1), .val (.int p2), .val (.int p3), .val (.ref b1), .val (.int (1 : Int32)), .val (.int (own_next (own_next (own_next (0 : Int32) (p0 &&& (255 : Int32))) (p1 &&& (255 : Int32))) (p2 &&& (255 : Int32))))] [(.int (own_next (own_next (own_next (own_next (0 : Int32) (p0 &&& (255 : Int32))) (p1 &&& (255 : Int32))) (p2 &&& (255 : Int32))) (p3 &&& (255 : Int32))))])) _
    refine XS.istore X19.here hx rfl (hb hby at_195) rfl (l' := #[.val (.int p0), .val (.int p1), .val (.int p2), .val (.int p3), .val (.ref b1), .val (.int (1 : Int32)), .val (.int (own_next (own_next (own_next (own_next (0 : Int32) (p0 &&& (255 : Int32))) (p1 &&& (255 : Int32))) (p2 &&& (255 : Int32))) (p3 &&& (255 : Int32))))]) rfl ?_
    show Steps p.tables e below (T19.setTop (mkF m 197 #[.val (.int p0), .val (.int p1), .val (.int p2), .val (.int p3), .val (.ref b1), .val (.int (1 : Int32)), .val (.int (own_next (own_next (own_next (own_next (0 : Int32) (p0 &&& (255 : Int32))) (p1 &&& (255 : Int32))) (p2 &&& (255 : Int32))) (p3 &&& (255 : Int32))))] [])) _
    refine XS.iload X19.here hx rfl (hb hby at_197) rfl ?_
    show Steps p.tables e below (T19.setTop (mkF m 199 #[.val (.int p0), .val (.int p1), .val (.int p2), .val (.int p3), .val (.ref b1), .val (.int (1 : Int32)), .val (.int (own_next (own_next (own_next (own_next (0 : Int32) (p0 &&& (255 : Int32))) (p1 &&& (255 : Int32))) (p2 &&& (255 : Int32))) (p3 &&& (255 : Int32))))] [(.int (1 : Int32))])) _
    refine XS.ifNo X19.here hx rfl (hb hby at_199) rfl ((if0 _ _).trans (feq (by decide : ¬ ((1 : Int32) = (0 : Int32)))).1) ?_
    show Steps p.tables e below (T19.setTop (mkF m 202 #[.val (.int p0), .val (.int p1), .val (.int p2), .val (.int p3), .val (.ref b1), .val (.int (1 : Int32)), .val (.int (own_next (own_next (own_next (own_next (0 : Int32) (p0 &&& (255 : Int32))) (p1 &&& (255 : Int32))) (p2 &&& (255 : Int32))) (p3 &&& (255 : Int32))))] [])) _
    refine XS.aload X19.here hx rfl (hb hby at_202) rfl rfl ?_
    show Steps p.tables e below (T19.setTop (mkF m 204 #[.val (.int p0), .val (.int p1), .val (.int p2), .val (.int p3), .val (.ref b1), .val (.int (1 : Int32)), .val (.int (own_next (own_next (own_next (own_next (0 : Int32) (p0 &&& (255 : Int32))) (p1 &&& (255 : Int32))) (p2 &&& (255 : Int32))) (p3 &&& (255 : Int32))))] [(.ref b1)])) _
    refine st20.trans ?_
    show Steps p.tables e below (T20.setTop (mkF m 207 #[.val (.int p0), .val (.int p1), .val (.int p2), .val (.int p3), .val (.ref b1), .val (.int (1 : Int32)), .val (.int (own_next (own_next (own_next (own_next (0 : Int32) (p0 &&& (255 : Int32))) (p1 &&& (255 : Int32))) (p2 &&& (255 : Int32))) (p3 &&& (255 : Int32))))] [(.int (if (0 : Int32) < (own_next (own_next (own_next (own_next (0 : Int32) (p0 &&& (255 : Int32))) (p1 &&& (255 : Int32))) (p2 &&& (255 : Int32))) (p3 &&& (255 : Int32))) then (1 : Int32) else (0 : Int32)))])) _
    refine XS.iload X20.here hx rfl (hb hby at_207) rfl ?_
    show Steps p.tables e below (T20.setTop (mkF m 209 #[.val (.int p0), .val (.int p1), .val (.int p2), .val (.int p3), .val (.ref b1), .val (.int (1 : Int32)), .val (.int (own_next (own_next (own_next (own_next (0 : Int32) (p0 &&& (255 : Int32))) (p1 &&& (255 : Int32))) (p2 &&& (255 : Int32))) (p3 &&& (255 : Int32))))] [(.int (own_next (own_next (own_next (own_next (0 : Int32) (p0 &&& (255 : Int32))) (p1 &&& (255 : Int32))) (p2 &&& (255 : Int32))) (p3 &&& (255 : Int32)))), (.int (if (0 : Int32) < (own_next (own_next (own_next (own_next (0 : Int32) (p0 &&& (255 : Int32))) (p1 &&& (255 : Int32))) (p2 &&& (255 : Int32))) (p3 &&& (255 : Int32))) then (1 : Int32) else (0 : Int32)))])) _
    refine own_boolI (g := (mkF m 209 #[.val (.int p0), .val (.int p1), .val (.int p2), .val (.int p3), .val (.ref b1), .val (.int (1 : Int32)), .val (.int (own_next (own_next (own_next (own_next (0 : Int32) (p0 &&& (255 : Int32))) (p1 &&& (255 : Int32))) (p2 &&& (255 : Int32))) (p3 &&& (255 : Int32))))] [(.int (own_next (own_next (own_next (own_next (0 : Int32) (p0 &&& (255 : Int32))) (p1 &&& (255 : Int32))) (p2 &&& (255 : Int32))) (p3 &&& (255 : Int32)))), (.int (if (0 : Int32) < (own_next (own_next (own_next (own_next (0 : Int32) (p0 &&& (255 : Int32))) (p1 &&& (255 : Int32))) (p2 &&& (255 : Int32))) (p3 &&& (255 : Int32))) then (1 : Int32) else (0 : Int32)))])) X20.here hx rfl (hb hby at_209) (hb hby at_212) (hb hby at_213) (hb hby at_216) rfl (by exact own_b_le _ _) ?_
    show Steps p.tables e below (T20.setTop (mkF m 217 #[.val (.int p0), .val (.int p1), .val (.int p2), .val (.int p3), .val (.ref b1), .val (.int (1 : Int32)), .val (.int (own_next (own_next (own_next (own_next (0 : Int32) (p0 &&& (255 : Int32))) (p1 &&& (255 : Int32))) (p2 &&& (255 : Int32))) (p3 &&& (255 : Int32))))] [(.int (if (0 : Int32) < (own_next (own_next (own_next (own_next (0 : Int32) (p0 &&& (255 : Int32))) (p1 &&& (255 : Int32))) (p2 &&& (255 : Int32))) (p3 &&& (255 : Int32))) then (1 : Int32) else (0 : Int32))), (.int (if (0 : Int32) < (own_next (own_next (own_next (own_next (0 : Int32) (p0 &&& (255 : Int32))) (p1 &&& (255 : Int32))) (p2 &&& (255 : Int32))) (p3 &&& (255 : Int32))) then (1 : Int32) else (0 : Int32)))])) _
    refine XS.icmpNo X20.here hx rfl (hb hby at_217) rfl (teq (rfl : (if (0 : Int32) < (own_next (own_next (own_next (own_next (0 : Int32) (p0 &&& (255 : Int32))) (p1 &&& (255 : Int32))) (p2 &&& (255 : Int32))) (p3 &&& (255 : Int32))) then (1 : Int32) else (0 : Int32)) = (if (0 : Int32) < (own_next (own_next (own_next (own_next (0 : Int32) (p0 &&& (255 : Int32))) (p1 &&& (255 : Int32))) (p2 &&& (255 : Int32))) (p3 &&& (255 : Int32))) then (1 : Int32) else (0 : Int32)))).2 ?_
    show Steps p.tables e below (T20.setTop (mkF m 220 #[.val (.int p0), .val (.int p1), .val (.int p2), .val (.int p3), .val (.ref b1), .val (.int (1 : Int32)), .val (.int (own_next (own_next (own_next (own_next (0 : Int32) (p0 &&& (255 : Int32))) (p1 &&& (255 : Int32))) (p2 &&& (255 : Int32))) (p3 &&& (255 : Int32))))] [])) _
    refine XS.iconst X20.here hx rfl (hb hby at_220) ?_
    show Steps p.tables e below (T20.setTop (mkF m 221 #[.val (.int p0), .val (.int p1), .val (.int p2), .val (.int p3), .val (.ref b1), .val (.int (1 : Int32)), .val (.int (own_next (own_next (own_next (own_next (0 : Int32) (p0 &&& (255 : Int32))) (p1 &&& (255 : Int32))) (p2 &&& (255 : Int32))) (p3 &&& (255 : Int32))))] [(.int (1 : Int32))])) _
    refine XS.goto X20.here hx rfl (pc0 := 221) (pc' := 225) rfl (hb hby at_221) (by decide) (by decide) ?_
    show Steps p.tables e below (T20.setTop (mkF m 225 #[.val (.int p0), .val (.int p1), .val (.int p2), .val (.int p3), .val (.ref b1), .val (.int (1 : Int32)), .val (.int (own_next (own_next (own_next (own_next (0 : Int32) (p0 &&& (255 : Int32))) (p1 &&& (255 : Int32))) (p2 &&& (255 : Int32))) (p3 &&& (255 : Int32))))] [(.int (1 : Int32))])) _
    refine XS.istore X20.here hx rfl (hb hby at_225) rfl (l' := #[.val (.int p0), .val (.int p1), .val (.int p2), .val (.int p3), .val (.ref b1), .val (.int (1 : Int32)), .val (.int (own_next (own_next (own_next (own_next (0 : Int32) (p0 &&& (255 : Int32))) (p1 &&& (255 : Int32))) (p2 &&& (255 : Int32))) (p3 &&& (255 : Int32))))]) rfl ?_
    show Steps p.tables e below (T20.setTop (mkF m 227 #[.val (.int p0), .val (.int p1), .val (.int p2), .val (.int p3), .val (.ref b1), .val (.int (1 : Int32)), .val (.int (own_next (own_next (own_next (own_next (0 : Int32) (p0 &&& (255 : Int32))) (p1 &&& (255 : Int32))) (p2 &&& (255 : Int32))) (p3 &&& (255 : Int32))))] [])) _
    refine XS.iload X20.here hx rfl (hb hby at_227) rfl ?_
    exact k
  obtain ⟨fs, hrq, hrun, hended, hW, hsame⟩ := X20.leave (v := some (.int (1 : Int32))) (fun h => by rw [Bd.returns] at h; cases h)
  refine ⟨_, _, pre21 _ ?_, hrun, hended, _, _, rfl, ?_, ⟨_, rfl⟩, hW, hsame.mono (by decide) (by decide)⟩
  · show Steps p.tables e below (T20.setTop (mkF m 229 #[.val (.int p0), .val (.int p1), .val (.int p2), .val (.int p3), .val (.ref b1), .val (.int (1 : Int32)), .val (.int (own_next (own_next (own_next (own_next (0 : Int32) (p0 &&& (255 : Int32))) (p1 &&& (255 : Int32))) (p2 &&& (255 : Int32))) (p3 &&& (255 : Int32))))] [(.int (1 : Int32))])) _
    exact retN X20 hx (t := .boolean) Bd.returns (by simp) (hb hby at_229) hrq
  · show Q0 Z p0 p1 p2 p3 h0 n0 _ T20.heap _
    rw [e20]
    exact ⟨rfl, N20⟩
set_option maxRecDepth 65536 in
set_option maxHeartbeats 40000000 in
theorem comes_1 {Post : Tables → Env → Array Value → State → Outcome → State → Prop} (hpost : ∀ tb e args s v u, (limb_1_1.after args s (.returned v) u = true ∧ limb_1_2.after args s (.returned v) u = true ∧ True) → FrameEnd s (.returned v) u (Jvm.fieldLocs frame_1_writes args s ++ Jvm.arrayLocs frame_1_arrays args s ++ Jvm.staticLocs frame_1_statics s) 16 128 → Post tb e args s (.returned v) u) :
    ArmFor flags0 classFile x code maxLocals ret World_1 tables_1 room_1 Calls_1 rest_1 Pre_1 Post := by
  intro l hfl _ _ p e ha hc hk s m args below hf hA hF happ hP
  obtain ⟨hcalls, hrest, hpre⟩ := hP
  obtain ⟨-, -, -, hnamed, -, -, -, hat⟩ := (Spec.applies_iff hf).mp happ
  obtain ⟨hg, hn⟩ := and_e (Cond.before_iff.mp (show (Jvm.Cond.and given_1 narrow_1).before args s = true from hpre))
  obtain ⟨gc, g0⟩ := and_e hg
  obtain ⟨ga0, g1⟩ := and_e g0
  obtain ⟨ga1, g2⟩ := and_e g1
  obtain ⟨ga2, g3⟩ := and_e g2
  have ga3 := g3
  obtain ⟨w0, w1, w2, w3, rfl⟩ : ∃ w0 w1 w2 w3 : Value, args = #[w0, w1, w2, w3] := by
    have hs : args.size = 4 := by simpa [Cond.value, given_1] using gc
    obtain ⟨L⟩ := args
    match L, hs with
    | [w0, w1, w2, w3], _ => exact ⟨w0, w1, w2, w3, rfl⟩
  have hw := fun d (hd : d ∈ tables_1) => atoms_spec (ws := Jvm.Cond.code x code maxLocals ret :: tables_1) hat d (List.mem_cons_of_mem _ hd)
  have hfit : Fit s := fun {y c} hc i hi => by
    obtain ⟨ha, rfl⟩ := Array.getElem?_eq_some_iff.mp hc
    have q := List.all_eq_true.mp ((Array.all_eq_true_iff_forall_mem.mp hF) _ (Array.getElem_mem ha)) i (List.mem_range.mpr hi)
    simpa [Array.getElem?_eq_getElem hi] using q
  obtain ⟨i0, ei0⟩ := is_v ga0
  obtain rfl : w0 = (.int i0) := Option.some.inj ei0
  obtain ⟨i1, ei1⟩ := is_v ga1
  obtain rfl : w1 = (.int i1) := Option.some.inj ei1
  obtain ⟨i2, ei2⟩ := is_v ga2
  obtain rfl : w2 = (.int i2) := Option.some.inj ei2
  obtain ⟨i3, ei3⟩ := is_v ga3
  obtain rfl : w3 = (.int i3) := Option.some.inj ei3
  obtain ⟨n, o, h1, h2, h3, _, L, rfl, ⟨rfl, N⟩, hq⟩ := rm0 l s _ hw tables_1 i0 i1 i2 i3  s.heap s.heap.size (Nat.le_refl _)  p e ha hc hk s m _ below hf ((Spec.applies_iff_loose hf).mp happ).1 ⟨rfl, State.Warmed39.refl s, rfl⟩ trivial
  refine ⟨n, _, h1, h2, h3, hpost _ _ _ _ _ _ ⟨Cond.after_iff.mpr rfl, Cond.after_iff.mpr (eq_i res_at (Term.int_eval (1)) rfl), trivial⟩ ⟨hq.1, hq.2.1, (hq.2.2.sift fun y hy => Or.inr (N y hy)).mono (by decide) (by decide)⟩⟩
theorem main_1_1 : Claimed_1_1 := comes_1 fun _ _ _ _ _ _ h hF => ⟨h.1, hF⟩
theorem main_1_2 : Claimed_1_2 := comes_1 fun _ _ _ _ _ _ h hF => ⟨h.2.1, hF⟩
end Jvm.Pilot.@@N@@
namespace Jvm.Pilot.@@N@@
open Jvm Jvm.ClassFile Sem Op Lib Jvm.Free Jvm.Stand Jvm.Pilot.@@N@@.Jvm.D
/-! MADE BY PROGRAM (witnessworld.py) out of the Statement's table words and the real class files: 9 classes; the members and pool entries that the words name. The judged class is class 1, her method 3. -/
namespace start1
open Jvm.ClassFile
def u (s : String) : CpInfo := .utf8 (stringToUtf16 s)
/-- a pool by its gaps: so many unusable entries, then the entry; so many at the end -/
def gap : Nat → List CpInfo → List CpInfo
  | 0, r => r
  | n + 1, r => .unusable :: gap n r
def poolList (es : List (Nat × CpInfo)) (last : Nat) : List CpInfo := es.foldr (fun e r => gap e.1 (e.2 :: r)) (gap last [])
def pool (es : List (Nat × CpInfo)) (last : Nat) : Array CpInfo := ⟨poolList es last⟩
def fileOf (pool : Array CpInfo) (this : Nat) (attrs : Array Attribute := #[]) (ms : Array MethodInfo := #[]) (fl : Nat := 33) (sup : Nat := 0) (ifs : Array Nat := #[]) (fds : Array FieldInfo := #[]) : ClassFile where
  minorVersion := 0
  majorVersion := 65
  constantPool := pool
  accessFlags := fl
  thisClass := this
  superClass := sup
  interfaces := ifs
  fields := fds
  methods := ms
  attributes := attrs
def plain (name : String) (sup : Option ClassId) : Class where
  name := name
  kind := .ordinary
  loader := none
  accessFlags := 33
  super := sup
  interfaces := #[]
  cf := none
  fields := #[]
  methods := #[]
  instanceTypes := #[]
  staticTypes := #[]
  resolved := #[]
  callSites := []
  init := .initialized
  statics := none
  mirror := none

def pool0 : Array CpInfo := pool [(5, u "<init>"), (0, u "()V"), (1, .class_ 10), (1, u "java/lang/Object")] 113

def k0c0 : Code := { maxStack := 0, maxLocals := 1, code := object_method_1_code, exceptionTable := #[], attributes := #[] }
def k0m0 : Method := { name := "<init>", desc := "()V", sig := { parameters := [], returnType := none }, accessFlags := 1, code := some k0c0 }
/-- java/lang/Object -/
def k0 : Class := { plain "java/lang/Object" none with
  accessFlags := 33
  interfaces := #[]
  cf := some (fileOf pool0 8 #[] #[{ accessFlags := 1, nameIndex := 5, descriptorIndex := 6, attributes := #[] }] 33 0 #[] #[])
  fields := #[]
  methods := #[k0m0]
  instanceTypes := #[]
  staticTypes := #[]
  resolved := Array.replicate 124 none
  statics := none }

def pool1 : Array CpInfo := pool [(2, .class_ 4), (0, .nameAndType 5 6), (0, u "java/lang/Object"), (0, u "<init>"), (0, u "()V"), (0, .methodref 8 9), (0, .class_ 10), (0, .nameAndType 11 12), (0, u "com/example/vestline/vestline/io/Utf8ValidatorPendingPinLaw"), (0, u "need"), (0, u "(I)I"), (0, .class_ 14), (0, u "com/example/vestline/vestline/io/Utf8Validator"), (0, .methodref 13 3), (0, .methodref 13 17), (0, .nameAndType 18 19), (0, u "pending"), (0, u "()Z"), (0, .methodref 13 21), (0, .nameAndType 22 23), (0, u "accept"), (0, u "(B)Z"), (0, .methodref 8 25), (0, .nameAndType 26 27), (0, u "next"), (0, u "(II)I"), (3, u "law"), (0, u "(IIII)Z")] 2

def k1m0 : Method := { name := "<init>", desc := "()V", sig := { parameters := [], returnType := none }, accessFlags := 1, code := none }
def k1c1 : Code := { maxStack := 2, maxLocals := 1, code := method_2_code, exceptionTable := #[], attributes := #[] }
def k1m1 : Method := { name := "need", desc := "(I)I", sig := { parameters := [.int], returnType := some .int }, accessFlags := 10, code := some k1c1 }
def k1c2 : Code := { maxStack := 2, maxLocals := 2, code := method_3_code, exceptionTable := #[], attributes := #[] }
def k1m2 : Method := { name := "next", desc := "(II)I", sig := { parameters := [.int, .int], returnType := some .int }, accessFlags := 10, code := some k1c2 }
def k1c3 : Code := { maxStack := 3, maxLocals := 7, code := code, exceptionTable := #[], attributes := #[] }
def k1m3 : Method := { name := "law", desc := "(IIII)Z", sig := { parameters := [.int, .int, .int, .int], returnType := some .boolean }, accessFlags := 9, code := some k1c3 }
/-- com/example/vestline/vestline/io/Utf8ValidatorPendingPinLaw -/
def k1 : Class := { plain "com/example/vestline/vestline/io/Utf8ValidatorPendingPinLaw" (some 0) with
  accessFlags := 49
  interfaces := #[]
  cf := some (fileOf pool1 8 #[] #[{ accessFlags := 1, nameIndex := 5, descriptorIndex := 6, attributes := #[] }, { accessFlags := 10, nameIndex := 11, descriptorIndex := 12, attributes := #[] }, { accessFlags := 10, nameIndex := 26, descriptorIndex := 27, attributes := #[] }, { accessFlags := 9, nameIndex := 31, descriptorIndex := 32, attributes := #[] }] 49 2 #[] #[])
  fields := #[]
  methods := #[k1m0, k1m1, k1m2, k1m3]
  instanceTypes := #[]
  staticTypes := #[]
  resolved := Array.replicate 35 none
  statics := none }

def pool2 : Array CpInfo := pool [(1, .methodref 2 3), (0, .class_ 4), (0, .nameAndType 5 6), (0, u "java/lang/Object"), (0, u "<init>"), (0, u "()V"), (0, .fieldref 8 9), (0, .class_ 10), (0, .nameAndType 11 12), (0, u "com/example/vestline/vestline/io/Utf8Validator"), (0, u "pending"), (0, u "I"), (0, .fieldref 8 14), (0, .nameAndType 15 12), (0, u "lowest"), (0, .fieldref 8 17), (0, .nameAndType 18 12), (0, u "highest"), (0, .methodref 8 20), (0, .nameAndType 21 22), (0, u "expect"), (0, u "(III)Z"), (2, u "()Z"), (1, u "accept"), (0, u "(B)Z")] 2

def k2c0 : Code := { maxStack := 1, maxLocals := 1, code := prog_59_method_1_code, exceptionTable := #[], attributes := #[] }
def k2m0 : Method := { name := "<init>", desc := "()V", sig := { parameters := [], returnType := none }, accessFlags := 0, code := some k2c0 }
def k2c1 : Code := { maxStack := 1, maxLocals := 1, code := prog_59_method_2_code, exceptionTable := #[], attributes := #[] }
def k2m1 : Method := { name := "pending", desc := "()Z", sig := { parameters := [], returnType := some .boolean }, accessFlags := 0, code := some k2c1 }
def k2c2 : Code := { maxStack := 4, maxLocals := 4, code := prog_59_method_3_code, exceptionTable := #[], attributes := #[] }
def k2m2 : Method := { name := "accept", desc := "(B)Z", sig := { parameters := [.byte], returnType := some .boolean }, accessFlags := 0, code := some k2c2 }
def k2c3 : Code := { maxStack := 2, maxLocals := 4, code := prog_59_method_4_code, exceptionTable := #[], attributes := #[] }
def k2m3 : Method := { name := "expect", desc := "(III)Z", sig := { parameters := [.int, .int, .int], returnType := some .boolean }, accessFlags := 2, code := some k2c3 }
/-- com/example/vestline/vestline/io/Utf8Validator -/
def k2 : Class := { plain "com/example/vestline/vestline/io/Utf8Validator" (some 0) with
  accessFlags := 48
  interfaces := #[]
  cf := some (fileOf pool2 8 #[] #[{ accessFlags := 0, nameIndex := 5, descriptorIndex := 6, attributes := #[] }, { accessFlags := 0, nameIndex := 11, descriptorIndex := 25, attributes := #[] }, { accessFlags := 0, nameIndex := 27, descriptorIndex := 28, attributes := #[] }, { accessFlags := 2, nameIndex := 21, descriptorIndex := 22, attributes := #[] }] 48 2 #[] #[{ accessFlags := 2, nameIndex := 11, descriptorIndex := 12, attributes := #[] }, { accessFlags := 2, nameIndex := 15, descriptorIndex := 12, attributes := #[] }, { accessFlags := 2, nameIndex := 18, descriptorIndex := 12, attributes := #[] }])
  fields := #[{ name := "pending", type := .int, accessFlags := 2, slot := 0, constantValue := 0 }, { name := "lowest", type := .int, accessFlags := 2, slot := 1, constantValue := 0 }, { name := "highest", type := .int, accessFlags := 2, slot := 2, constantValue := 0 }]
  methods := #[k2m0, k2m1, k2m2, k2m3]
  instanceTypes := #[.int, .int, .int]
  staticTypes := #[]
  resolved := Array.replicate 31 none
  statics := none }

def pool3 : Array CpInfo := pool [(1, u "java/lang/Cloneable"), (0, .class_ 1), (0, u "java/lang/Object"), (0, .class_ 3)] 3

/-- java/lang/Cloneable -/
def k3 : Class := { plain "java/lang/Cloneable" (some 0) with
  accessFlags := 1537
  interfaces := #[]
  cf := some (fileOf pool3 2 #[] #[] 1537 4 #[] #[])
  fields := #[]
  methods := #[]
  instanceTypes := #[]
  staticTypes := #[]
  resolved := Array.replicate 8 none
  statics := none }

def pool4 : Array CpInfo := pool [(1, u "java/io/Serializable"), (0, .class_ 1), (0, u "java/lang/Object"), (0, .class_ 3)] 3

/-- java/io/Serializable -/
def k4 : Class := { plain "java/io/Serializable" (some 0) with
  accessFlags := 1537
  interfaces := #[]
  cf := some (fileOf pool4 2 #[] #[] 1537 4 #[] #[])
  fields := #[]
  methods := #[]
  instanceTypes := #[]
  staticTypes := #[]
  resolved := Array.replicate 8 none
  statics := none }

/-- the primitive byte -/
def k5 : Class := { plain "byte" none with kind := .primitive 'B', accessFlags := 0x411 }
/-- [B -/
def k6 : Class := { plain "[B" (some 0) with kind := .array 5 .byte, interfaces := #[3, 4], accessFlags := 1041 }

/-- the primitive int -/
def k7 : Class := { plain "int" none with kind := .primitive 'I', accessFlags := 0x411 }
/-- [I -/
def k8 : Class := { plain "[I" (some 0) with kind := .array 7 .int, interfaces := #[3, 4], accessFlags := 1041 }

def heap : Heap := #[]
def classes : Array Class := #[k0, k1, k2, k3, k4, k5, k6, k7, k8]
def interned : List (Array UInt16 × Addr) := []
def slotsUsed : Nat := 0
def theMethod : MethodId := ⟨1, 3⟩
def args0 : Array Value := #[.int 226, .int 130, .int 172, .int 65]
def aboutOver (below : List Frame) : State where
  vm := { classes := classes, interned := interned.toArray }
  heap := heap
  slotsUsed := slotsUsed
  threads := #[{ frames := .invoking theMethod args0 :: below }]
def below0 : List Frame := [.native { method := ⟨0, 0⟩, args := #[] }]
def about1 : State := aboutOver below0
def p0 : Program := .bare "" "" ""
def e0 : Env := launch0.env 0 0 0
theorem w_frames : about1.frames = Frame.invoking theMethod args0 :: below0 := rfl
set_option maxRecDepth 65536 in
theorem w_args : argsFit about1.vm theMethod args0 = true := by decide +kernel
set_option maxRecDepth 65536 in
theorem w_heap : heapFits about1 = true := by decide +kernel
set_option maxRecDepth 65536 in
theorem w_runnable : about1.curStatus? = some .runnable := by decide +kernel
set_option maxRecDepth 65536 in
theorem w_alone : about1.alone = true := by decide +kernel
set_option maxRecDepth 65536 in
theorem w_named : about1.methodNamed? x = some theMethod := by decide +kernel
set_option maxRecDepth 65536 in
theorem w_hears : about1.hears theMethod below0 = true := by decide +kernel
set_option maxRecDepth 65536 in
theorem w_ripe : about1.ripe theMethod args0 below0 = true := by decide +kernel
theorem w_running : about1.status = .running := rfl
set_option maxRecDepth 65536 in
theorem w_room : about1.hasRoom e0.platform room_1 = true :=
  launch0.hasRoom_least _ room_1 (by decide +kernel) (by decide +kernel) (by decide +kernel) (by decide +kernel) (by decide +kernel) (by decide +kernel)
theorem allAtoms_all (ts : List Jvm.Cond) (a : Array Jvm.Value) (st : Jvm.State) : (allAtoms ts).before a st = ts.all (fun c => c.before a st) := by
  induction ts with
  | nil => rfl
  | cons c t ih =>
    show (Jvm.Cond.and c (allAtoms t)).before a st = _
    rw [Jvm.Cond.before_and, ih, List.all_cons]
def words1 : List Jvm.Cond := Jvm.Cond.code x code maxLocals ret :: tables_1
/-- a 'code' word, met by the world's own term for the bytes: nothing is compared byte by byte -/
theorem code_word {y : MethodName} {bytes : ByteArray} {mx : Nat} {rt : Option FieldType} {a : Array Value} {s : State} {m : MethodId} {meth : Method} {c : Code} (h1 : s.methodNamed? y = some m) (h2 : s.vm.method? m = some meth) (h3 : meth.code = some c) (h4 : c.code = bytes)
    (h5 : (c.maxLocals == mx && c.exceptionTable.isEmpty && decide (c.maxStack ≤ mostOperands) && decide (meth.sig.returnType = rt) && !meth.locks && decide (parseMethodDescriptor y.desc = some meth.sig)) = true) : (Jvm.Cond.code y bytes mx rt).before a s = true := by
  simp only [Bool.and_eq_true, beq_iff_eq, Bool.not_eq_true', decide_eq_true_eq] at h5
  obtain ⟨⟨⟨⟨⟨g1, g2⟩, g3⟩, g4⟩, g5⟩, g6⟩ := h5
  simp [Cond.before, Cond.holds, Cond.value, h1, h2, h3, h4, g1, g2, g3, g4, g5, g6]
def isCode : Jvm.Cond → Bool
  | .code _ _ _ _ => true
  | _ => false
theorem all_split {L : List Jvm.Cond} {P : Jvm.Cond → Bool} (h1 : L.all (fun c => isCode c || P c) = true) (h2 : ∀ c ∈ L.filter isCode, P c = true) : L.all P = true := by
  refine List.all_eq_true.mpr fun c hc => ?_
  have h := List.all_eq_true.mp h1 c hc
  rcases Bool.eq_false_or_eq_true (isCode c) with hi | hi
  · exact h2 c (List.mem_filter.mpr ⟨hc, hi⟩)
  · simpa [hi] using h
set_option maxRecDepth 65536 in
theorem w_c0 : (Jvm.Cond.code x code maxLocals ret).before args0 about1 = true := code_word (m := ⟨1, 3⟩) (meth := k1m3) (c := k1c3) (by decide +kernel) rfl rfl rfl (by decide +kernel)
set_option maxRecDepth 65536 in
theorem w_c1 : (Jvm.Cond.code ({ cls := "com/example/vestline/vestline/io/Utf8Validator", name := "<init>", desc := "()V" } : Jvm.MethodName) prog_59_method_1_code (1 : Nat) (Option.none : Option Jvm.ClassFile.FieldType)).before args0 about1 = true := code_word (m := ⟨2, 0⟩) (meth := k2m0) (c := k2c0) (by decide +kernel) rfl rfl rfl (by decide +kernel)
set_option maxRecDepth 65536 in
theorem w_c2 : (Jvm.Cond.code ({ cls := "java/lang/Object", name := "<init>", desc := "()V" } : Jvm.MethodName) object_method_1_code (1 : Nat) (Option.none : Option Jvm.ClassFile.FieldType)).before args0 about1 = true := code_word (m := ⟨0, 0⟩) (meth := k0m0) (c := k0c0) (by decide +kernel) rfl rfl rfl (by decide +kernel)
set_option maxRecDepth 65536 in
theorem w_c3 : (Jvm.Cond.code ({ cls := "com/example/vestline/vestline/io/Utf8Validator", name := "pending", desc := "()Z" } : Jvm.MethodName) prog_59_method_2_code (1 : Nat) (Option.some Jvm.ClassFile.FieldType.boolean)).before args0 about1 = true := code_word (m := ⟨2, 1⟩) (meth := k2m1) (c := k2c1) (by decide +kernel) rfl rfl rfl (by decide +kernel)
set_option maxRecDepth 65536 in
theorem w_c4 : (Jvm.Cond.code ({ cls := "com/example/vestline/vestline/io/Utf8Validator", name := "accept", desc := "(B)Z" } : Jvm.MethodName) prog_59_method_3_code (4 : Nat) (Option.some Jvm.ClassFile.FieldType.boolean)).before args0 about1 = true := code_word (m := ⟨2, 2⟩) (meth := k2m2) (c := k2c2) (by decide +kernel) rfl rfl rfl (by decide +kernel)
set_option maxRecDepth 65536 in
theorem w_c5 : (Jvm.Cond.code ({ cls := "com/example/vestline/vestline/io/Utf8ValidatorPendingPinLaw", name := "next", desc := "(II)I" } : Jvm.MethodName) method_3_code (2 : Nat) (Option.some Jvm.ClassFile.FieldType.int)).before args0 about1 = true := code_word (m := ⟨1, 2⟩) (meth := k1m2) (c := k1c2) (by decide +kernel) rfl rfl rfl (by decide +kernel)
set_option maxRecDepth 65536 in
theorem w_c6 : (Jvm.Cond.code ({ cls := "com/example/vestline/vestline/io/Utf8ValidatorPendingPinLaw", name := "need", desc := "(I)I" } : Jvm.MethodName) method_2_code (1 : Nat) (Option.some Jvm.ClassFile.FieldType.int)).before args0 about1 = true := code_word (m := ⟨1, 1⟩) (meth := k1m1) (c := k1c1) (by decide +kernel) rfl rfl rfl (by decide +kernel)
set_option maxRecDepth 65536 in
theorem w_c7 : (Jvm.Cond.code ({ cls := "com/example/vestline/vestline/io/Utf8Validator", name := "expect", desc := "(III)Z" } : Jvm.MethodName) prog_59_method_4_code (4 : Nat) (Option.some Jvm.ClassFile.FieldType.boolean)).before args0 about1 = true := code_word (m := ⟨2, 3⟩) (meth := k2m3) (c := k2c3) (by decide +kernel) rfl rfl rfl (by decide +kernel)
def codes1 : List Jvm.Cond := [Jvm.Cond.code x code maxLocals ret, Jvm.Cond.code ({ cls := "com/example/vestline/vestline/io/Utf8Validator", name := "<init>", desc := "()V" } : Jvm.MethodName) prog_59_method_1_code (1 : Nat) (Option.none : Option Jvm.ClassFile.FieldType), Jvm.Cond.code ({ cls := "java/lang/Object", name := "<init>", desc := "()V" } : Jvm.MethodName) object_method_1_code (1 : Nat) (Option.none : Option Jvm.ClassFile.FieldType), Jvm.Cond.code ({ cls := "com/example/vestline/vestline/io/Utf8Validator", name := "pending", desc := "()Z" } : Jvm.MethodName) prog_59_method_2_code (1 : Nat) (Option.some Jvm.ClassFile.FieldType.boolean), Jvm.Cond.code ({ cls := "com/example/vestline/vestline/io/Utf8Validator", name := "accept", desc := "(B)Z" } : Jvm.MethodName) prog_59_method_3_code (4 : Nat) (Option.some Jvm.ClassFile.FieldType.boolean), Jvm.Cond.code ({ cls := "com/example/vestline/vestline/io/Utf8ValidatorPendingPinLaw", name := "next", desc := "(II)I" } : Jvm.MethodName) method_3_code (2 : Nat) (Option.some Jvm.ClassFile.FieldType.int), Jvm.Cond.code ({ cls := "com/example/vestline/vestline/io/Utf8ValidatorPendingPinLaw", name := "need", desc := "(I)I" } : Jvm.MethodName) method_2_code (1 : Nat) (Option.some Jvm.ClassFile.FieldType.int), Jvm.Cond.code ({ cls := "com/example/vestline/vestline/io/Utf8Validator", name := "expect", desc := "(III)Z" } : Jvm.MethodName) prog_59_method_4_code (4 : Nat) (Option.some Jvm.ClassFile.FieldType.boolean)]
set_option maxRecDepth 65536 in
theorem codes_eq : words1.filter isCode = codes1 := rfl
theorem w_codes : ∀ c ∈ words1.filter isCode, c.before args0 about1 = true := by
  rw [codes_eq]
  intro c hc
  simp only [codes1, List.mem_cons, List.not_mem_nil, or_false] at hc
  rcases hc with rfl | rfl | rfl | rfl | rfl | rfl | rfl | rfl
  · exact w_c0
  · exact w_c1
  · exact w_c2
  · exact w_c3
  · exact w_c4
  · exact w_c5
  · exact w_c6
  · exact w_c7
set_option maxRecDepth 65536 in
theorem w_t1 : (words1.take 24).all (fun c => isCode c || c.before args0 about1) = true := by decide +kernel
set_option maxRecDepth 65536 in
theorem w_t2 : (words1.drop 24).all (fun c => isCode c || c.before args0 about1) = true := by decide +kernel
theorem w_tables : (allAtoms (Jvm.Cond.code x code maxLocals ret :: tables_1)).before args0 about1 = true := by
  rw [allAtoms_all]
  show words1.all (fun c => c.before args0 about1) = true
  refine all_split ?_ w_codes
  rw [← List.take_append_drop 24 words1, List.all_append, w_t1, w_t2]
  rfl
set_option maxRecDepth 65536 in
theorem w_case : (Jvm.Cond.and given_1 narrow_1).before args0 about1 = true := by decide +kernel
theorem w_applies : (headSpec (Jvm.Cond.code x code maxLocals ret :: tables_1) room_1).applies x e0.platform about1 = true :=
  (Spec.applies_iff w_frames).mpr ⟨w_running, w_runnable, w_alone, w_named, w_hears, w_ripe, w_room, w_tables⟩
theorem atStart : AtStart classFile x code maxLocals ret World_1 tables_1 room_1 Calls_1 rest_1 Pre_1 launch0 p0 e0 about1 theMethod args0 below0 :=
  ⟨lists_1, trivial, launch0.admits_env _ _ _, launch0.least_env, fairChoices_fair.cas, fairChoices_fair.clock, w_frames, w_args, w_heap, w_applies, trivial, trivial, w_case⟩
end start1
theorem witness_1 : WitnessClaimed_1 := ⟨start1.p0, start1.e0, start1.about1, start1.theMethod, start1.args0, start1.below0, start1.atStart⟩
end Jvm.Pilot.@@N@@
