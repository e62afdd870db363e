import JvmDerived
import JvmDerived.Pilot.@@N@@Statement
import JvmDerived.Pilot.@@N@@Code
set_option linter.unusedVariables false
set_option linter.unusedSimpArgs false
namespace Jvm.Pilot.@@N@@
open Jvm Jvm.ClassFile Sem Op Lib Jvm.Free Jvm.Stand Jvm.LawKit Jvm.RoadKit Bundle Jvm.Pilot.@@N@@.Jvm.D
/-! my own layer: a body's walk by a predicate on states (go: one step on, fin: a return), arrays by their elements -/
theorem own_metfree {l : Launch} {x : MethodName} {ws : List Jvm.Cond} {R : Room} {code : ByteArray} {maxL : Nat} {ret : Option FieldType} {as' : Array Value} {Z : State} {h0 : Heap} {Q : Option Value → Heap → List Loc → Prop} (hpl : plainFor x = true)
    (body : ∀ (p : Program) (e : Env) (s : State) (m : MethodId) (below : List Frame) (meth : Method) (c : Code) (s₁ : State),
      Stand p l e R s m as' below meth c s₁ [] 0 0 → p.tables.exec = Jvm.exec → c.code = code → c.maxLocals = maxL → meth.sig.returnType = ret → s.vm.findClass x.cls = some m.cls → meth.name = x.name → Z.Warmed39 s.vm → s₁.heap = h0 →
      ∀ G : State → Prop, (∀ U U', (∀ t, Steps p.tables e below U' t → Steps p.tables e below U t) → G U' → G U) →
        (∀ {T : State} {locs : List Loc} {cells slots : Nat} (v : Option Value) (g : JFrame), Stand p l e R s m as' below meth c T locs cells slots → (ret = none → v = none) →
          (∀ fs, (∀ (f : JFrame) (acts : List Action), f.method = m → f.locked = none → f.entered = [] → (doReturn e (T.setTop f) acts v).1 = T.setFrames fs) → Steps p.tables e below (T.setTop g) (T.setFrames fs)) →
          Q v T.heap locs → cells ≤ R.cells → slots ≤ R.slots → G (T.setTop g)) →
        G (s₁.setTop (entryFrame m as' maxL))) :
    MetFree l x (head1 (Jvm.Cond.code x code maxL ret :: ws) R) (fun a U => a = as' ∧ Z.Warmed39 U.vm ∧ U.heap = h0) (fun _ _ _ _ _ => True) (fun _ U o U' => ∃ v L, o = .returned v ∧ Q v U'.heap L ∧ FrameEnd U o U' L R.cells R.slots) := by
  refine MetFree.of_bodySF hpl hisR ?_
  intro p e s m args below meth c s₁ Bd hml0 hP hK
  obtain ⟨rfl, hZ, hh⟩ := hP
  have X0 : Stand p l e R s m args below meth c s₁ [] 0 0 := Stand.of_body Bd
  refine body p e s m below meth c s₁ X0 Bd.exec Bd.bytes hml0 Bd.returns (findClass_of_methodNamed Bd.named) (name_of_methodNamed Bd.named Bd.method).1 hZ (by rw [← hh, Bd.state]; rfl)
    (fun U => ∃ s₂ o, Steps p.tables e below U s₂ ∧ s₂.status = .running ∧ Ended s₂ below o ∧ ∃ v L, o = .returned v ∧ Q v s₂.heap L ∧ FrameEnd s o s₂ L R.cells R.slots) ?_ ?_
  · rintro U U' h ⟨s₂, o, h1, h2⟩
    exact ⟨s₂, o, h _ h1, h2⟩
  · intro T locs cells slots v g X hv hst hq hc hs
    obtain ⟨fs, hr, hrun, hended, hW, hsame⟩ := X.leave (v := v) (by rw [Bd.returns]; exact hv)
    exact ⟨_, _, hst fs hr, hrun, hended, _, _, rfl, hq, ⟨_, rfl⟩, hW, hsame.mono hc hs⟩
theorem own_lrem {tb : Tables} [Ours tb] {e : Env} {below : List Frame} {T target : State} {m : MethodId} {c : Code} {g : JFrame} (h : At T m c below) (hx : tb.exec = Jvm.exec) (hg : g.method = m) {x y : Int64} {rest : List Value} (hd : decode c.code g.pc = .ok (.lrem, 1)) (hs : g.stack = .long y :: .long x :: rest) (hy : y ≠ 0)
    (hr : Steps tb e below (T.setTop { g with pc := g.pc + 1, stack := .long (x % y) :: rest }) target) : Steps tb e below (T.setTop g) target :=
  XS.lrem h hx hg hd hs hy (by rw [lrem_mod]; exact hr)
def own_spec4 (vm : Int64) (ve : Int32) : Int32 := if (0 : Int32) < ve then 1 else if (4611686018427387904 : Int64) < vm then 1 else 0
theorem own_ef2 (m : MethodId) (o0 : Addr) : entryFrame m #[(.ref o0)] 1 = mkF m 0 #[.val (.ref o0)] [] := by first | (simp [entryFrame, mkF, argsToLocals, Value.category]; done) | rfl
theorem own_pn2 : plainName "java/lang/Record" = true := by first | (simp [plainName, overriddenIn]; done) | decide +kernel
theorem d2_0 : decode jdk_30_method_1_code 0 = .ok (.aload_n 0, 1) := by decide +kernel
theorem d2_1 : decode jdk_30_method_1_code 1 = .ok (.invokespecial 1, 3) := by decide +kernel
theorem d2_4 : decode jdk_30_method_1_code 4 = .ok (.return_, 1) := by decide +kernel
def own_Q2 (Z : State) (o0 : Addr) (h0 : Heap) (n0 : Nat) (v : Option Value) (h : Heap) (L : List Loc) : Prop := v = none ∧ Fr n0 L ∧ h = h0
set_option maxRecDepth 65536 in
set_option maxHeartbeats 40000000 in
theorem rm2 (l : Launch) (Z : State) (a0 : Array Value) (hw : ∀ d ∈ tables_1, d.before a0 Z = true) (ws : List Jvm.Cond) (o0 : Addr) (h0 : Heap) (n0 : Nat) (Z0 : n0 ≤ h0.size) :
    MetFree l (⟨"java/lang/Record", "<init>", "()V"⟩ : MethodName) (head1 (Jvm.Cond.code (⟨"java/lang/Record", "<init>", "()V"⟩ : MethodName) jdk_30_method_1_code 1 none :: ws) ({ frames := 1, cells := 0, slots := 0, locals := 12 } : Room)) (fun a U => a = #[(.ref o0)] ∧ Z.Warmed39 U.vm ∧ U.heap = h0) (fun _ _ _ _ _ => True) (fun _ U o U' => ∃ v L, o = .returned v ∧ own_Q2 Z o0 h0 n0 v U'.heap L ∧ FrameEnd U o U' L ({ frames := 1, cells := 0, slots := 0, locals := 12 } : Room).cells ({ frames := 1, cells := 0, slots := 0, locals := 12 } : Room).slots) := by
  refine own_metfree (Q := own_Q2 Z o0 h0 n0) (plainFor_of_name own_pn2) ?_
  intro p e s m below meth c s₁ X0 hx hby hml hret hown hnm hZ e0 G go fin
  have N0 := Fr.nil n0
  refine go _ (s₁.setTop (mkF m 0 #[.val (.ref o0)] [])) (fun t k => castTop (own_ef2 m o0) k) ?_
  refine go _ (s₁.setTop (mkF m 1 #[.val (.ref o0)] [(.ref o0)])) (fun t k => XS.aloadN X0.here hx rfl (hb hby d2_0) rfl rfl k) ?_
  obtain ⟨T1, X1, e1, st1⟩ := initO X0 hx hZ hown (hw _ (List.mem_of_getElem? (i := 13) rfl)) (hw _ (List.mem_of_getElem? (i := 14) rfl)) (hw _ (List.mem_of_getElem? (i := 15) rfl)) e0 (g := (mkF m 1 #[.val (.ref o0)] [(.ref o0)])) rfl (by rw [hml]; rfl) rfl (hb hby d2_1) (by decide) (W := 0) (by show 2 * 0 + _ ≤ _; exact Nat.le_of_eq rfl) (by decide)
  refine go _ (T1.setTop (mkF m 4 #[.val (.ref o0)] [])) st1 ?_
  refine fin (none) (mkF m 4 #[.val (.ref o0)] []) X1 (fun _ => rfl) (fun fs hr => X1.returnOut hx hret (hb hby d2_4) hr) ?_ (by decide) (by decide)
  try rw [e1]
  exact ⟨rfl, N0, rfl⟩
theorem own_ef1 (m : MethodId) (o0 : Addr) (q1 : Int64) (p2 : Int32) : entryFrame m #[(.ref o0), (.long q1), (.int p2)] 4 = mkF m 0 #[.val (.ref o0), .val (.long q1), .second, .val (.int p2)] [] := by first | (simp [entryFrame, mkF, argsToLocals, Value.category]; done) | rfl
theorem own_pn1 : plainName "com/example/lienwright/lienwright/LevelPayment$Binary" = true := by first | (simp [plainName, overriddenIn]; done) | decide +kernel
theorem d1_0 : decode prog_36_method_1_code 0 = .ok (.aload_n 0, 1) := by decide +kernel
theorem d1_1 : decode prog_36_method_1_code 1 = .ok (.invokespecial 3, 3) := by decide +kernel
theorem own_pd_0 : parseMethodDescriptor "()V" = some ⟨[], none⟩ := by decide +kernel
theorem d1_4 : decode prog_36_method_1_code 4 = .ok (.aload_n 0, 1) := by decide +kernel
theorem d1_5 : decode prog_36_method_1_code 5 = .ok (.lload_n 1, 1) := by decide +kernel
theorem d1_6 : decode prog_36_method_1_code 6 = .ok (.putfield 9, 3) := by decide +kernel
theorem d1_9 : decode prog_36_method_1_code 9 = .ok (.aload_n 0, 1) := by decide +kernel
theorem d1_10 : decode prog_36_method_1_code 10 = .ok (.iload_n 3, 1) := by decide +kernel
theorem d1_11 : decode prog_36_method_1_code 11 = .ok (.putfield 13, 3) := by decide +kernel
theorem d1_14 : decode prog_36_method_1_code 14 = .ok (.return_, 1) := by decide +kernel
def own_Q1 (Z : State) (o0 : Addr) (q1 : Int64) (p2 : Int32) (h0 : Heap) (n0 : Nat) (v : Option Value) (h : Heap) (L : List Loc) : Prop := v = none ∧ Fr n0 L ∧ Keep h0 h [o0] ∧ Exa Z h o0 "com/example/lienwright/lienwright/LevelPayment$Binary" ∧ Fld Z h o0 "com/example/lienwright/lienwright/LevelPayment$Binary" "mantissa" "J" (.long q1) ∧ Fld Z h o0 "com/example/lienwright/lienwright/LevelPayment$Binary" "exponent" "I" (.int p2)
set_option maxRecDepth 65536 in
set_option maxHeartbeats 40000000 in
theorem rm1 (l : Launch) (Z : State) (a0 : Array Value) (hw : ∀ d ∈ tables_1, d.before a0 Z = true) (ws : List Jvm.Cond) (o0 : Addr) (q1 : Int64) (p2 : Int32) (h0 : Heap) (n0 : Nat) (Z0 : n0 ≤ h0.size) (P0 : Fld Z h0 o0 "com/example/lienwright/lienwright/LevelPayment$Binary" "mantissa" "J" (.long (0 : Int64))) (P1 : Fld Z h0 o0 "com/example/lienwright/lienwright/LevelPayment$Binary" "exponent" "I" (.int (0 : Int32))) (PE : Exa Z h0 o0 "com/example/lienwright/lienwright/LevelPayment$Binary") (Pg : n0 ≤ o0) :
    MetFree l (⟨"com/example/lienwright/lienwright/LevelPayment$Binary", "<init>", "(JI)V"⟩ : MethodName) (head1 (Jvm.Cond.code (⟨"com/example/lienwright/lienwright/LevelPayment$Binary", "<init>", "(JI)V"⟩ : MethodName) prog_36_method_1_code 4 none :: ws) ({ frames := 2, cells := 0, slots := 0, locals := 24 } : Room)) (fun a U => a = #[(.ref o0), (.long q1), (.int p2)] ∧ Z.Warmed39 U.vm ∧ U.heap = h0) (fun _ _ _ _ _ => True) (fun _ U o U' => ∃ v L, o = .returned v ∧ own_Q1 Z o0 q1 p2 h0 n0 v U'.heap L ∧ FrameEnd U o U' L ({ frames := 2, cells := 0, slots := 0, locals := 24 } : Room).cells ({ frames := 2, cells := 0, slots := 0, locals := 24 } : Room).slots) := by
  refine own_metfree (Q := own_Q1 Z o0 q1 p2 h0 n0) (plainFor_of_name own_pn1) ?_
  intro p e s m below meth c s₁ X0 hx hby hml hret hown hnm hZ e0 G go fin
  have N0 := Fr.nil n0
  refine go _ (s₁.setTop (mkF m 0 #[.val (.ref o0), .val (.long q1), .second, .val (.int p2)] [])) (fun t k => castTop (own_ef1 m o0 q1 p2) k) ?_
  refine go _ (s₁.setTop (mkF m 1 #[.val (.ref o0), .val (.long q1), .second, .val (.int p2)] [(.ref o0)])) (fun t k => XS.aloadN X0.here hx rfl (hb hby d1_0) rfl rfl k) ?_
  obtain ⟨_, _, ⟨T1, L1, k1, n1⟩, -, X1, ⟨Lc1, hQ1, l1, y1, z1⟩, st1⟩ := X0.specialBack hx (y := (⟨"java/lang/Record", "<init>", "()V"⟩ : MethodName)) rfl hown (mvT hZ (hw _ (List.mem_of_getElem? (i := 8) rfl))) (mvT hZ (hw _ (List.mem_of_getElem? (i := 9) rfl))) (mvT hZ (hw _ (List.mem_of_getElem? (i := 12) rfl))) (by decide) (backOf (W := 0) (rm2 l Z a0 hw [] o0 h0 n0 Z0) hZ (hw _ (List.mem_of_getElem? (i := 12) rfl)) (hw _ (List.mem_of_getElem? (i := 11) rfl)) (by decide) (by decide)) (g := (mkF m 1 #[.val (.ref o0), .val (.long q1), .second, .val (.int p2)] [(.ref o0)])) rfl (by rw [hml]; rfl) (Steps.refl _) (a := o0) (argsL := []) (rest := []) (lenOf own_pd_0 rfl) rfl (by show 2 * 0 + _ ≤ _; exact Nat.le_of_eq rfl) (hb hby d1_1) (fun _ _ => ⟨rfl, e0, (by decide : 0 + 0 ≤ _), (by decide : 0 + 0 ≤ _)⟩)
  dsimp only [Pt.U, Pt.locs, Pt.cells, Pt.slots] at X1 l1 y1 z1 st1 hQ1
  subst l1 y1 z1
  obtain ⟨rfl, Nq1, eq1⟩ := hQ1
  have N1 := Fr.app N0 Nq1
  refine go _ (T1.setTop (mkF m 4 #[.val (.ref o0), .val (.long q1), .second, .val (.int p2)] [])) (fun t k => st1.trans k) ?_
  refine go _ (T1.setTop (mkF m 5 #[.val (.ref o0), .val (.long q1), .second, .val (.int p2)] [(.ref o0)])) (fun t k => XS.aloadN X1.here hx rfl (hb hby d1_4) rfl rfl k) ?_
  refine go _ (T1.setTop (mkF m 6 #[.val (.ref o0), .val (.long q1), .second, .val (.int p2)] [(.long q1), (.ref o0)])) (fun t k => XS.lloadN X1.here hx rfl (hb hby d1_5) rfl k) ?_
  obtain ⟨T2, h2, X2, e2, W2, st2⟩ := putF X1 hx hZ hown (host := "") (Or.inl (hw _ (List.mem_of_getElem? (i := 16) rfl))) Via.refl eq1 P0 PE (Or.inr ⟨(hw _ (List.mem_of_getElem? (i := 17) rfl)), rfl, hnm⟩) (hw _ (List.mem_of_getElem? (i := 3) rfl)) (ty := .long) (by decide) rfl rfl (g := (mkF m 6 #[.val (.ref o0), .val (.long q1), .second, .val (.int p2)] [(.long q1), (.ref o0)])) rfl rfl (hb hby d1_6)
  have Fw2 : Fld Z h2 o0 "com/example/lienwright/lienwright/LevelPayment$Binary" "mantissa" "J" (.long q1) := P0.same W2
  have N2 := Fr.snoc X2 N1 Pg
  refine go _ (T2.setTop (mkF m 9 #[.val (.ref o0), .val (.long q1), .second, .val (.int p2)] [])) st2 ?_
  refine go _ (T2.setTop (mkF m 10 #[.val (.ref o0), .val (.long q1), .second, .val (.int p2)] [(.ref o0)])) (fun t k => XS.aloadN X2.here hx rfl (hb hby d1_9) rfl rfl k) ?_
  refine go _ (T2.setTop (mkF m 11 #[.val (.ref o0), .val (.long q1), .second, .val (.int p2)] [(.int p2), (.ref o0)])) (fun t k => XS.iloadN X2.here hx rfl (hb hby d1_10) rfl k) ?_
  have F3_exponent_o0 : Fld Z h2 o0 "com/example/lienwright/lienwright/LevelPayment$Binary" "exponent" "I" (.int (0 : Int32)) := (P1.other W2 (Or.inr (slot_ne (Or.inr (hw _ (List.mem_of_getElem? (i := 19) rfl))) (Or.inr (hw _ (List.mem_of_getElem? (i := 17) rfl))) (by decide) (t := .int) (t' := .long) (by decide) (by decide))))
  have E4_o0 : Exa Z h2 o0 "com/example/lienwright/lienwright/LevelPayment$Binary" := (PE.wr W2)
  obtain ⟨T5, h5, X5, e5, W5, st5⟩ := putF X2 hx hZ hown (host := "") (Or.inl (hw _ (List.mem_of_getElem? (i := 18) rfl))) Via.refl e2 F3_exponent_o0 E4_o0 (Or.inr ⟨(hw _ (List.mem_of_getElem? (i := 19) rfl)), rfl, hnm⟩) (hw _ (List.mem_of_getElem? (i := 3) rfl)) (ty := .int) (by decide) rfl rfl (g := (mkF m 11 #[.val (.ref o0), .val (.long q1), .second, .val (.int p2)] [(.int p2), (.ref o0)])) rfl rfl (hb hby d1_11)
  have Fw5 : Fld Z h5 o0 "com/example/lienwright/lienwright/LevelPayment$Binary" "exponent" "I" (.int p2) := F3_exponent_o0.same W5
  have N5 := Fr.snoc X5 N2 Pg
  refine go _ (T5.setTop (mkF m 14 #[.val (.ref o0), .val (.long q1), .second, .val (.int p2)] [])) st5 ?_
  have E6_o0 : Exa Z h5 o0 "com/example/lienwright/lienwright/LevelPayment$Binary" := (E4_o0.wr W5)
  have F7_mantissa_o0 : Fld Z h5 o0 "com/example/lienwright/lienwright/LevelPayment$Binary" "mantissa" "J" (.long q1) := (Fw2.other W5 (Or.inr (slot_ne (Or.inr (hw _ (List.mem_of_getElem? (i := 17) rfl))) (Or.inr (hw _ (List.mem_of_getElem? (i := 19) rfl))) (by decide) (t := .long) (t' := .int) (by decide) (by decide))))
  refine fin (none) (mkF m 14 #[.val (.ref o0), .val (.long q1), .second, .val (.int p2)] []) X5 (fun _ => rfl) (fun fs hr => X5.returnOut hx hret (hb hby d1_14) hr) ?_ (by decide) (by decide)
  try rw [e5]
  exact ⟨rfl, N5, (((Keep.refl h0 [o0]).wr W2 (Or.inl (List.mem_of_getElem? (i := 0) rfl))).wr W5 (Or.inl (List.mem_of_getElem? (i := 0) rfl))), E6_o0, F7_mantissa_o0, Fw5⟩
theorem own_ef4 (m : MethodId) (o0 : Addr) : entryFrame m #[(.ref o0)] 1 = mkF m 0 #[.val (.ref o0)] [] := by first | (simp [entryFrame, mkF, argsToLocals, Value.category]; done) | rfl
theorem own_pn4 : plainName "com/example/lienwright/lienwright/LevelPayment$Binary" = true := by first | (simp [plainName, overriddenIn]; done) | decide +kernel
theorem d4_0 : decode prog_36_method_4_code 0 = .ok (.aload_n 0, 1) := by decide +kernel
theorem d4_1 : decode prog_36_method_4_code 1 = .ok (.getfield 13, 3) := by decide +kernel
theorem d4_4 : decode prog_36_method_4_code 4 = .ok (.ifCond .gt 14, 3) := by decide +kernel
theorem d4_18 : decode prog_36_method_4_code 18 = .ok (.iconst 1, 1) := by decide +kernel
theorem d4_19 : decode prog_36_method_4_code 19 = .ok (.goto 4, 3) := by decide +kernel
theorem d4_23 : decode prog_36_method_4_code 23 = .ok (.ireturn, 1) := by decide +kernel
theorem d4_7 : decode prog_36_method_4_code 7 = .ok (.aload_n 0, 1) := by decide +kernel
theorem d4_8 : decode prog_36_method_4_code 8 = .ok (.getfield 9, 3) := by decide +kernel
theorem d4_11 : decode prog_36_method_4_code 11 = .ok (.ldc2_w 32, 3) := by decide +kernel
theorem d4_14 : decode prog_36_method_4_code 14 = .ok (.lcmp, 1) := by decide +kernel
theorem d4_15 : decode prog_36_method_4_code 15 = .ok (.ifCond .le 7, 3) := by decide +kernel
theorem d4_22 : decode prog_36_method_4_code 22 = .ok (.iconst 0, 1) := by decide +kernel
def own_Q4 (Z : State) (o0 : Addr) (vm : Int64) (ve : Int32) (h0 : Heap) (n0 : Nat) (v : Option Value) (h : Heap) (L : List Loc) : Prop := v = some (.int (own_spec4 vm ve)) ∧ Fr n0 L ∧ h = h0
set_option maxRecDepth 65536 in
set_option maxHeartbeats 40000000 in
theorem rm4 (l : Launch) (Z : State) (a0 : Array Value) (hw : ∀ d ∈ tables_1, d.before a0 Z = true) (ws : List Jvm.Cond) (o0 : Addr) (vm : Int64) (ve : Int32) (h0 : Heap) (n0 : Nat) (Z0 : n0 ≤ h0.size) (P0 : Fld Z h0 o0 "com/example/lienwright/lienwright/LevelPayment$Binary" "mantissa" "J" (.long vm)) (P1 : Fld Z h0 o0 "com/example/lienwright/lienwright/LevelPayment$Binary" "exponent" "I" (.int ve)) :
    MetFree l (⟨"com/example/lienwright/lienwright/LevelPayment$Binary", "exceedsOne", "()Z"⟩ : MethodName) (head1 (Jvm.Cond.code (⟨"com/example/lienwright/lienwright/LevelPayment$Binary", "exceedsOne", "()Z"⟩ : MethodName) prog_36_method_4_code 1 (some .boolean) :: ws) ({ frames := 0, cells := 0, slots := 0, locals := 0 } : Room)) (fun a U => a = #[(.ref o0)] ∧ Z.Warmed39 U.vm ∧ U.heap = h0) (fun _ _ _ _ _ => True) (fun _ U o U' => ∃ v L, o = .returned v ∧ own_Q4 Z o0 vm ve h0 n0 v U'.heap L ∧ FrameEnd U o U' L ({ frames := 0, cells := 0, slots := 0, locals := 0 } : Room).cells ({ frames := 0, cells := 0, slots := 0, locals := 0 } : Room).slots) := by
  refine own_metfree (Q := own_Q4 Z o0 vm ve h0 n0) (plainFor_of_name own_pn4) ?_
  intro p e s m below meth c s₁ X0 hx hby hml hret hown hnm hZ e0 G go fin
  have N0 := Fr.nil n0
  refine go _ (s₁.setTop (mkF m 0 #[.val (.ref o0)] [])) (fun t k => castTop (own_ef4 m o0) k) ?_
  refine go _ (s₁.setTop (mkF m 1 #[.val (.ref o0)] [(.ref o0)])) (fun t k => XS.aloadN X0.here hx rfl (hb hby d4_0) rfl rfl k) ?_
  obtain ⟨T1, X1, e1, st1⟩ := getF X0 hx hZ hown (host := "") (Or.inl (hw _ (List.mem_of_getElem? (i := 18) rfl))) Via.refl e0 P1 (g := (mkF m 1 #[.val (.ref o0)] [(.ref o0)])) rfl rfl (hb hby d4_1)
  refine go _ (T1.setTop (mkF m 4 #[.val (.ref o0)] [(.int ve)])) st1 ?_
  rcases Decidable.em ((0 : Int32) < ve) with hc4 | hc4
  · refine go _ (T1.setTop (mkF m 18 #[.val (.ref o0)] [])) (fun t k => XS.ifYes X1.here hx rfl (pc0 := 4) (pc' := 18) rfl (hb hby d4_4) rfl ((if0 _ _).trans (tlt hc4).2.2.1) (by decide) (by decide) k) ?_
    refine go _ (T1.setTop (mkF m 19 #[.val (.ref o0)] [(.int (1 : Int32))])) (fun t k => XS.iconst X1.here hx rfl (hb hby d4_18) k) ?_
    refine go _ (T1.setTop (mkF m 23 #[.val (.ref o0)] [(.int (1 : Int32))])) (fun t k => XS.goto X1.here hx rfl (pc0 := 19) (pc' := 23) rfl (hb hby d4_19) (by decide) (by decide) k) ?_
    refine fin (some (.int (1 : Int32))) (mkF m 23 #[.val (.ref o0)] [(.int (1 : Int32))]) X1 (fun h => by cases h) (fun fs hr => retOut X1 hx (t := .boolean) hret rfl (Or.inl ⟨rfl, by simp, _, rfl⟩) (hb hby d4_23) hr) ?_ (by decide) (by decide)
    try rw [e1]
    exact ⟨by simp [own_spec4, hc4], N0, rfl⟩
  · refine go _ (T1.setTop (mkF m 7 #[.val (.ref o0)] [])) (fun t k => XS.ifNo X1.here hx rfl (hb hby d4_4) rfl ((if0 _ _).trans (flt hc4).2.2.1) k) ?_
    refine go _ (T1.setTop (mkF m 8 #[.val (.ref o0)] [(.ref o0)])) (fun t k => XS.aloadN X1.here hx rfl (hb hby d4_7) rfl rfl k) ?_
    obtain ⟨T2, X2, e2, st2⟩ := getF X1 hx hZ hown (host := "") (Or.inl (hw _ (List.mem_of_getElem? (i := 16) rfl))) Via.refl e1 P0 (g := (mkF m 8 #[.val (.ref o0)] [(.ref o0)])) rfl rfl (hb hby d4_8)
    refine go _ (T2.setTop (mkF m 11 #[.val (.ref o0)] [(.long vm)])) st2 ?_
    refine go _ (T2.setTop (mkF m 14 #[.val (.ref o0)] [(.long (4611686018427387904 : Int64)), (.long vm)])) (fun t k => X2.ldc2Long hx hown (mvT hZ (hw _ (List.mem_of_getElem? (i := 25) rfl))) (g := (mkF m 11 #[.val (.ref o0)] [(.long vm)])) rfl (hb hby d4_11) _ k) ?_
    refine go _ (T2.setTop (mkF m 15 #[.val (.ref o0)] [(.int (lcmpW vm (4611686018427387904 : Int64)))])) (fun t k => XS.lcmp X2.here hx rfl (hb hby d4_14) rfl k) ?_
    rcases Decidable.em ((4611686018427387904 : Int64) < vm) with hc15 | hc15
    · refine go _ (T2.setTop (mkF m 18 #[.val (.ref o0)] [])) (fun t k => XS.ifNo X2.here hx rfl (hb hby d4_15) rfl ((if0 _ _).trans (tlt ((lw_gt _ _).mpr hc15)).2.2.2) k) ?_
      refine go _ (T2.setTop (mkF m 19 #[.val (.ref o0)] [(.int (1 : Int32))])) (fun t k => XS.iconst X2.here hx rfl (hb hby d4_18) k) ?_
      refine go _ (T2.setTop (mkF m 23 #[.val (.ref o0)] [(.int (1 : Int32))])) (fun t k => XS.goto X2.here hx rfl (pc0 := 19) (pc' := 23) rfl (hb hby d4_19) (by decide) (by decide) k) ?_
      refine fin (some (.int (1 : Int32))) (mkF m 23 #[.val (.ref o0)] [(.int (1 : Int32))]) X2 (fun h => by cases h) (fun fs hr => retOut X2 hx (t := .boolean) hret rfl (Or.inl ⟨rfl, by simp, _, rfl⟩) (hb hby d4_23) hr) ?_ (by decide) (by decide)
      try rw [e2]
      exact ⟨by simp [own_spec4, hc4, hc15], N0, rfl⟩
    · refine go _ (T2.setTop (mkF m 22 #[.val (.ref o0)] [])) (fun t k => XS.ifYes X2.here hx rfl (pc0 := 15) (pc' := 22) rfl (hb hby d4_15) rfl ((if0 _ _).trans (flt (fun q => hc15 ((lw_gt _ _).mp q))).2.2.2) (by decide) (by decide) k) ?_
      refine go _ (T2.setTop (mkF m 23 #[.val (.ref o0)] [(.int (0 : Int32))])) (fun t k => XS.iconst X2.here hx rfl (hb hby d4_22) k) ?_
      refine fin (some (.int (0 : Int32))) (mkF m 23 #[.val (.ref o0)] [(.int (0 : Int32))]) X2 (fun h => by cases h) (fun fs hr => retOut X2 hx (t := .boolean) hret rfl (Or.inl ⟨rfl, by simp, _, rfl⟩) (hb hby d4_23) hr) ?_ (by decide) (by decide)
      try rw [e2]
      exact ⟨by simp [own_spec4, hc4, hc15], N0, rfl⟩
theorem own_mant (q : Int64) : ¬ ((4611686018427387904 : Int64) + (q &&& ((4611686018427387904 : Int64) - (1 : Int64))) < (4611686018427387904 : Int64)) := by
  have h1 := c_maskL q ((4611686018427387904 : Int64) - (1 : Int64)) 62 (by decide) (by decide)
  have h2 := c_ladd (4611686018427387904 : Int64) (q &&& ((4611686018427387904 : Int64) - (1 : Int64)))
  have h3 := rng64 ((4611686018427387904 : Int64) + (q &&& ((4611686018427387904 : Int64) - (1 : Int64))))
  have k : (4611686018427387904 : Int64).toInt = 4611686018427387904 := by decide
  rw [Int64.lt_iff_toInt_lt]
  omega
theorem own_exp (p : Int32) : ¬ ((p &&& (2147483647 : Int32)) < (0 : Int32)) := by
  have h1 := c_mask p (2147483647 : Int32) 31 (by decide) (by decide)
  have k : (0 : Int32).toInt = 0 := by decide
  rw [Int32.lt_iff_toInt_lt]
  omega
theorem own_pos {p : Int32} (h : ¬ p < (0 : Int32)) (h' : ¬ p = (0 : Int32)) : (0 : Int32) < p := by
  simp only [Int32.lt_iff_toInt_lt, ← Int32.toInt_inj] at *
  omega
theorem own_big {q r : Int64} (h : ¬ q < r) (h' : ¬ q = r) : r < q := by
  simp only [Int64.lt_iff_toInt_lt, ← Int64.toInt_inj] at *
  omega
theorem own_ef0 (m : MethodId) (q0 : Int64) (p2 : Int32) (p3 : Int32) : entryFrame m #[(.long q0), (.int p2), (.int p3)] maxLocals = mkF m 0 #[.val (.long q0), .second, .val (.int p2), .val (.int p3), .unset, .unset, .unset, .unset, .unset, .unset, .unset] [] := by first | (simp [entryFrame, mkF, argsToLocals, Value.category, maxLocals]; done) | rfl
theorem own_pn0 : plainName "com/example/lienwright/lienwright/BinaryExceedsOnePinLaw" = true := by first | (simp [plainName, overriddenIn]; done) | decide +kernel
theorem own_pd_1 : parseMethodDescriptor "(JI)V" = some ⟨[.long, .int], none⟩ := by decide +kernel
theorem own_pd_2 : parseMethodDescriptor "()Z" = some ⟨[], some .boolean⟩ := by decide +kernel
def own_Q0 (Z : State) (q0 : Int64) (p2 : Int32) (p3 : Int32) (h0 : Heap) (n0 : Nat) (v : Option Value) (h : Heap) (L : List Loc) : Prop := v = some (.int 1) ∧ Fr n0 L
set_option maxRecDepth 65536 in
set_option maxHeartbeats 40000000 in
theorem rm0 (l : Launch) (Z : State) (a0 : Array Value) (hw : ∀ d ∈ tables_1, d.before a0 Z = true) (ws : List Jvm.Cond) (q0 : Int64) (p2 : Int32) (p3 : Int32) (h0 : Heap) (n0 : Nat) (Z0 : n0 ≤ h0.size) :
    MetFree l x (head1 (Jvm.Cond.code x code maxLocals ret :: ws) room_1) (fun a U => a = #[(.long q0), (.int p2), (.int p3)] ∧ Z.Warmed39 U.vm ∧ U.heap = h0) (fun _ _ _ _ _ => True) (fun _ U o U' => ∃ v L, o = .returned v ∧ own_Q0 Z q0 p2 p3 h0 n0 v U'.heap L ∧ FrameEnd U o U' L room_1.cells room_1.slots) := by
  refine own_metfree (Q := own_Q0 Z q0 p2 p3 h0 n0) (plainFor_of_name own_pn0) ?_
  intro p e s m below meth c s₁ X0 hx hby hml hret hown hnm hZ e0 G go fin
  have N0 := Fr.nil n0
  refine go _ (s₁.setTop (mkF m 0 #[.val (.long q0), .second, .val (.int p2), .val (.int p3), .unset, .unset, .unset, .unset, .unset, .unset, .unset] [])) (fun t k => castTop (own_ef0 m q0 p2 p3) k) ?_
  refine go _ (s₁.setTop (mkF m 3 #[.val (.long q0), .second, .val (.int p2), .val (.int p3), .unset, .unset, .unset, .unset, .unset, .unset, .unset] [(.long (4611686018427387904 : Int64))])) (fun t k => X0.ldc2Long hx hown (mvT hZ (hw _ (List.mem_of_getElem? (i := 0) rfl))) (g := (mkF m 0 #[.val (.long q0), .second, .val (.int p2), .val (.int p3), .unset, .unset, .unset, .unset, .unset, .unset, .unset] [])) rfl (hb hby at_0) _ k) ?_
  refine go _ (s₁.setTop (mkF m 5 #[.val (.long q0), .second, .val (.int p2), .val (.int p3), .val (.long (4611686018427387904 : Int64)), .second, .unset, .unset, .unset, .unset, .unset] [])) (fun t k => XS.lstore X0.here hx rfl (hb hby at_3) rfl (l' := #[.val (.long q0), .second, .val (.int p2), .val (.int p3), .val (.long (4611686018427387904 : Int64)), .second, .unset, .unset, .unset, .unset, .unset]) rfl k) ?_
  refine go _ (s₁.setTop (mkF m 7 #[.val (.long q0), .second, .val (.int p2), .val (.int p3), .val (.long (4611686018427387904 : Int64)), .second, .unset, .unset, .unset, .unset, .unset] [(.long (4611686018427387904 : Int64))])) (fun t k => XS.lload X0.here hx rfl (hb hby at_5) rfl k) ?_
  refine go _ (s₁.setTop (mkF m 8 #[.val (.long q0), .second, .val (.int p2), .val (.int p3), .val (.long (4611686018427387904 : Int64)), .second, .unset, .unset, .unset, .unset, .unset] [(.long q0), (.long (4611686018427387904 : Int64))])) (fun t k => XS.lloadN X0.here hx rfl (hb hby at_7) rfl k) ?_
  refine go _ (s₁.setTop (mkF m 10 #[.val (.long q0), .second, .val (.int p2), .val (.int p3), .val (.long (4611686018427387904 : Int64)), .second, .unset, .unset, .unset, .unset, .unset] [(.long (4611686018427387904 : Int64)), (.long q0), (.long (4611686018427387904 : Int64))])) (fun t k => XS.lload X0.here hx rfl (hb hby at_8) rfl k) ?_
  refine go _ (s₁.setTop (mkF m 11 #[.val (.long q0), .second, .val (.int p2), .val (.int p3), .val (.long (4611686018427387904 : Int64)), .second, .unset, .unset, .unset, .unset, .unset] [(.long (1 : Int64)), (.long (4611686018427387904 : Int64)), (.long q0), (.long (4611686018427387904 : Int64))])) (fun t k => XS.lconst X0.here hx rfl (hb hby at_10) k) ?_
  refine go _ (s₁.setTop (mkF m 12 #[.val (.long q0), .second, .val (.int p2), .val (.int p3), .val (.long (4611686018427387904 : Int64)), .second, .unset, .unset, .unset, .unset, .unset] [(.long ((4611686018427387904 : Int64) - (1 : Int64))), (.long q0), (.long (4611686018427387904 : Int64))])) (fun t k => XS.lsub X0.here hx rfl (hb hby at_11) rfl k) ?_
  refine go _ (s₁.setTop (mkF m 13 #[.val (.long q0), .second, .val (.int p2), .val (.int p3), .val (.long (4611686018427387904 : Int64)), .second, .unset, .unset, .unset, .unset, .unset] [(.long (q0 &&& ((4611686018427387904 : Int64) - (1 : Int64)))), (.long (4611686018427387904 : Int64))])) (fun t k => XS.land X0.here hx rfl (hb hby at_12) rfl k) ?_
  refine go _ (s₁.setTop (mkF m 14 #[.val (.long q0), .second, .val (.int p2), .val (.int p3), .val (.long (4611686018427387904 : Int64)), .second, .unset, .unset, .unset, .unset, .unset] [(.long ((4611686018427387904 : Int64) + (q0 &&& ((4611686018427387904 : Int64) - (1 : Int64)))))])) (fun t k => XS.ladd X0.here hx rfl (hb hby at_13) rfl k) ?_
  refine go _ (s₁.setTop (mkF m 16 #[.val (.long q0), .second, .val (.int p2), .val (.int p3), .val (.long (4611686018427387904 : Int64)), .second, .val (.long ((4611686018427387904 : Int64) + (q0 &&& ((4611686018427387904 : Int64) - (1 : Int64))))), .second, .unset, .unset, .unset] [])) (fun t k => XS.lstore X0.here hx rfl (hb hby at_14) rfl (l' := #[.val (.long q0), .second, .val (.int p2), .val (.int p3), .val (.long (4611686018427387904 : Int64)), .second, .val (.long ((4611686018427387904 : Int64) + (q0 &&& ((4611686018427387904 : Int64) - (1 : Int64))))), .second, .unset, .unset, .unset]) rfl k) ?_
  have j26 : ∀ (vm : Int64) (hm : ¬ vm < (4611686018427387904 : Int64)), G (s₁.setTop (mkF m 26 #[.val (.long q0), .second, .val (.int p2), .val (.int p3), .val (.long (4611686018427387904 : Int64)), .second, .val (.long vm), .second, .unset, .unset, .unset] [])) := by
    intro vm hm
    refine go _ (s₁.setTop (mkF m 27 #[.val (.long q0), .second, .val (.int p2), .val (.int p3), .val (.long (4611686018427387904 : Int64)), .second, .val (.long vm), .second, .unset, .unset, .unset] [(.int p2)])) (fun t k => XS.iloadN X0.here hx rfl (hb hby at_26) rfl k) ?_
    refine go _ (s₁.setTop (mkF m 29 #[.val (.long q0), .second, .val (.int p2), .val (.int p3), .val (.long (4611686018427387904 : Int64)), .second, .val (.long vm), .second, .unset, .unset, .unset] [(.int (2147483647 : Int32)), (.int p2)])) (fun t k => X0.ldcInt hx hown (mvT hZ (hw _ (List.mem_of_getElem? (i := 1) rfl))) (g := (mkF m 27 #[.val (.long q0), .second, .val (.int p2), .val (.int p3), .val (.long (4611686018427387904 : Int64)), .second, .val (.long vm), .second, .unset, .unset, .unset] [(.int p2)])) rfl (hb hby at_27) _ k) ?_
    refine go _ (s₁.setTop (mkF m 30 #[.val (.long q0), .second, .val (.int p2), .val (.int p3), .val (.long (4611686018427387904 : Int64)), .second, .val (.long vm), .second, .unset, .unset, .unset] [(.int (p2 &&& (2147483647 : Int32)))])) (fun t k => XS.iand X0.here hx rfl (hb hby at_29) rfl k) ?_
    refine go _ (s₁.setTop (mkF m 32 #[.val (.long q0), .second, .val (.int p2), .val (.int p3), .val (.long (4611686018427387904 : Int64)), .second, .val (.long vm), .second, .val (.int (p2 &&& (2147483647 : Int32))), .unset, .unset] [])) (fun t k => XS.istore X0.here hx rfl (hb hby at_30) rfl (l' := #[.val (.long q0), .second, .val (.int p2), .val (.int p3), .val (.long (4611686018427387904 : Int64)), .second, .val (.long vm), .second, .val (.int (p2 &&& (2147483647 : Int32))), .unset, .unset]) rfl k) ?_
    have j41 : ∀ (ve : Int32) (he : ¬ ve < (0 : Int32)), G (s₁.setTop (mkF m 41 #[.val (.long q0), .second, .val (.int p2), .val (.int p3), .val (.long (4611686018427387904 : Int64)), .second, .val (.long vm), .second, .val (.int ve), .unset, .unset] [])) := by
      intro ve he
      obtain ⟨T1, h1, X1, e1, E1, Ax1, D1, -, st1⟩ := newO X0 hx hZ hown (hw _ (List.mem_of_getElem? (i := 2) rfl)) (hw _ (List.mem_of_getElem? (i := 3) rfl)) (hw _ (List.mem_of_getElem? (i := 4) rfl)) e0 (g := (mkF m 41 #[.val (.long q0), .second, .val (.int p2), .val (.int p3), .val (.long (4611686018427387904 : Int64)), .second, .val (.long vm), .second, .val (.int ve), .unset, .unset] [])) rfl (hb hby at_41) (by decide) (by decide)
      obtain ⟨b1, gb1⟩ : ∃ z, z = h0.size := ⟨_, rfl⟩
      rw [← gb1] at Ax1 D1 st1
      have g_b1 : n0 ≤ b1 := Nat.le_trans Z0 (Nat.le_of_eq gb1.symm)
      have sz_b1 : h0.size ≤ b1 := (Nat.le_of_eq gb1.symm)
      have F_mantissa_b1 : Fld Z h1 b1 "com/example/lienwright/lienwright/LevelPayment$Binary" "mantissa" "J" (.long (0 : Int64)) := D1 (Or.inr (hw _ (List.mem_of_getElem? (i := 17) rfl))) (ty := .long) (by decide)
      have F_exponent_b1 : Fld Z h1 b1 "com/example/lienwright/lienwright/LevelPayment$Binary" "exponent" "I" (.int (0 : Int32)) := D1 (Or.inr (hw _ (List.mem_of_getElem? (i := 19) rfl))) (ty := .int) (by decide)
      refine go _ (T1.setTop (mkF m 44 #[.val (.long q0), .second, .val (.int p2), .val (.int p3), .val (.long (4611686018427387904 : Int64)), .second, .val (.long vm), .second, .val (.int ve), .unset, .unset] [(.ref b1)])) st1 ?_
      refine go _ (T1.setTop (mkF m 45 #[.val (.long q0), .second, .val (.int p2), .val (.int p3), .val (.long (4611686018427387904 : Int64)), .second, .val (.long vm), .second, .val (.int ve), .unset, .unset] [(.ref b1), (.ref b1)])) (fun t k => XS.dup X1.here hx rfl (hb hby at_44) rfl rfl k) ?_
      refine go _ (T1.setTop (mkF m 47 #[.val (.long q0), .second, .val (.int p2), .val (.int p3), .val (.long (4611686018427387904 : Int64)), .second, .val (.long vm), .second, .val (.int ve), .unset, .unset] [(.long vm), (.ref b1), (.ref b1)])) (fun t k => XS.lload X1.here hx rfl (hb hby at_45) rfl k) ?_
      refine go _ (T1.setTop (mkF m 49 #[.val (.long q0), .second, .val (.int p2), .val (.int p3), .val (.long (4611686018427387904 : Int64)), .second, .val (.long vm), .second, .val (.int ve), .unset, .unset] [(.int ve), (.long vm), (.ref b1), (.ref b1)])) (fun t k => XS.iload X1.here hx rfl (hb hby at_47) rfl k) ?_
      have Z2z : n0 ≤ h1.size := (Nat.le_trans Z0 E1.1)
      obtain ⟨_, _, ⟨T3, L3, k3, n3⟩, -, X3, ⟨Lc3, hQ3, l3, y3, z3⟩, st3⟩ := X1.specialBack hx (y := (⟨"com/example/lienwright/lienwright/LevelPayment$Binary", "<init>", "(JI)V"⟩ : MethodName)) rfl hown (mvT hZ (hw _ (List.mem_of_getElem? (i := 5) rfl))) (mvT hZ (hw _ (List.mem_of_getElem? (i := 6) rfl))) (mvT hZ (hw _ (List.mem_of_getElem? (i := 7) rfl))) (by decide) (backOf (W := 1) (rm1 l Z a0 hw [] b1 vm ve h1 n0 Z2z F_mantissa_b1 F_exponent_b1 Ax1 g_b1) hZ (hw _ (List.mem_of_getElem? (i := 7) rfl)) (hw _ (List.mem_of_getElem? (i := 4) rfl)) (by decide) (by decide)) (g := (mkF m 49 #[.val (.long q0), .second, .val (.int p2), .val (.int p3), .val (.long (4611686018427387904 : Int64)), .second, .val (.long vm), .second, .val (.int ve), .unset, .unset] [(.int ve), (.long vm), (.ref b1), (.ref b1)])) rfl (by rw [hml]; rfl) (Steps.refl _) (a := b1) (argsL := [(.long vm), (.int ve)]) (rest := [(.ref b1)]) (lenOf own_pd_1 rfl) rfl (by show 2 * 0 + _ ≤ _; exact Nat.le_of_eq rfl) (hb hby at_49) (fun _ _ => ⟨rfl, e1, (by decide : 1 + 0 ≤ _), (by decide : 2 + 0 ≤ _)⟩)
      dsimp only [Pt.U, Pt.locs, Pt.cells, Pt.slots] at X3 l3 y3 z3 st3 hQ3
      subst l3 y3 z3
      obtain ⟨rfl, Nq3, K3, Ex3, Fa3_0, Fa3_1⟩ := hQ3
      have N3 := Fr.app N0 Nq3
      refine go _ (T3.setTop (mkF m 52 #[.val (.long q0), .second, .val (.int p2), .val (.int p3), .val (.long (4611686018427387904 : Int64)), .second, .val (.long vm), .second, .val (.int ve), .unset, .unset] [(.ref b1)])) (fun t k => st3.trans k) ?_
      refine go _ (T3.setTop (mkF m 54 #[.val (.long q0), .second, .val (.int p2), .val (.int p3), .val (.long (4611686018427387904 : Int64)), .second, .val (.long vm), .second, .val (.int ve), .val (.ref b1), .unset] [])) (fun t k => XS.astore X3.here hx rfl (hb hby at_52) rfl rfl (l' := #[.val (.long q0), .second, .val (.int p2), .val (.int p3), .val (.long (4611686018427387904 : Int64)), .second, .val (.long vm), .second, .val (.int ve), .val (.ref b1), .unset]) rfl k) ?_
      refine go _ (T3.setTop (mkF m 56 #[.val (.long q0), .second, .val (.int p2), .val (.int p3), .val (.long (4611686018427387904 : Int64)), .second, .val (.long vm), .second, .val (.int ve), .val (.ref b1), .unset] [(.long vm)])) (fun t k => XS.lload X3.here hx rfl (hb hby at_54) rfl k) ?_
      refine go _ (T3.setTop (mkF m 58 #[.val (.long q0), .second, .val (.int p2), .val (.int p3), .val (.long (4611686018427387904 : Int64)), .second, .val (.long vm), .second, .val (.int ve), .val (.ref b1), .unset] [(.long (4611686018427387904 : Int64)), (.long vm)])) (fun t k => XS.lload X3.here hx rfl (hb hby at_56) rfl k) ?_
      refine go _ (T3.setTop (mkF m 59 #[.val (.long q0), .second, .val (.int p2), .val (.int p3), .val (.long (4611686018427387904 : Int64)), .second, .val (.long vm), .second, .val (.int ve), .val (.ref b1), .unset] [(.int (lcmpW vm (4611686018427387904 : Int64)))])) (fun t k => XS.lcmp X3.here hx rfl (hb hby at_58) rfl k) ?_
      rcases Decidable.em (vm = (4611686018427387904 : Int64)) with hc59 | hc59
      · refine go _ (T3.setTop (mkF m 62 #[.val (.long q0), .second, .val (.int p2), .val (.int p3), .val (.long (4611686018427387904 : Int64)), .second, .val (.long vm), .second, .val (.int ve), .val (.ref b1), .unset] [])) (fun t k => XS.ifNo X3.here hx rfl (hb hby at_59) rfl ((if0 _ _).trans (teq ((lw_eq _ _).mpr hc59)).2) k) ?_
        refine go _ (T3.setTop (mkF m 64 #[.val (.long q0), .second, .val (.int p2), .val (.int p3), .val (.long (4611686018427387904 : Int64)), .second, .val (.long vm), .second, .val (.int ve), .val (.ref b1), .unset] [(.int ve)])) (fun t k => XS.iload X3.here hx rfl (hb hby at_62) rfl k) ?_
        rcases Decidable.em (ve = (0 : Int32)) with hc64 | hc64
        · refine go _ (T3.setTop (mkF m 67 #[.val (.long q0), .second, .val (.int p2), .val (.int p3), .val (.long (4611686018427387904 : Int64)), .second, .val (.long vm), .second, .val (.int ve), .val (.ref b1), .unset] [])) (fun t k => XS.ifNo X3.here hx rfl (hb hby at_64) rfl ((if0 _ _).trans (teq hc64).2) k) ?_
          refine go _ (T3.setTop (mkF m 68 #[.val (.long q0), .second, .val (.int p2), .val (.int p3), .val (.long (4611686018427387904 : Int64)), .second, .val (.long vm), .second, .val (.int ve), .val (.ref b1), .unset] [(.int (1 : Int32))])) (fun t k => XS.iconst X3.here hx rfl (hb hby at_67) k) ?_
          refine go _ (T3.setTop (mkF m 72 #[.val (.long q0), .second, .val (.int p2), .val (.int p3), .val (.long (4611686018427387904 : Int64)), .second, .val (.long vm), .second, .val (.int ve), .val (.ref b1), .unset] [(.int (1 : Int32))])) (fun t k => XS.goto X3.here hx rfl (pc0 := 68) (pc' := 72) rfl (hb hby at_68) (by decide) (by decide) k) ?_
          refine go _ (T3.setTop (mkF m 74 #[.val (.long q0), .second, .val (.int p2), .val (.int p3), .val (.long (4611686018427387904 : Int64)), .second, .val (.long vm), .second, .val (.int ve), .val (.ref b1), .val (.int (1 : Int32))] [])) (fun t k => XS.istore X3.here hx rfl (hb hby at_72) rfl (l' := #[.val (.long q0), .second, .val (.int p2), .val (.int p3), .val (.long (4611686018427387904 : Int64)), .second, .val (.long vm), .second, .val (.int ve), .val (.ref b1), .val (.int (1 : Int32))]) rfl k) ?_
          refine go _ (T3.setTop (mkF m 76 #[.val (.long q0), .second, .val (.int p2), .val (.int p3), .val (.long (4611686018427387904 : Int64)), .second, .val (.long vm), .second, .val (.int ve), .val (.ref b1), .val (.int (1 : Int32))] [(.ref b1)])) (fun t k => XS.aload X3.here hx rfl (hb hby at_74) rfl rfl k) ?_
          have Z4z : n0 ≤ T3.heap.size := (Nat.le_trans Z2z K3.1)
          obtain ⟨cq5, kq5, q5a, q5b, q5c⟩ := isOf hZ rfl Ex3
          obtain ⟨_, _, ⟨T5, L5, k5, n5⟩, -, X5, ⟨Lc5, hQ5, l5, y5, z5⟩, st5⟩ := X3.virtualBack hx (y := (⟨"com/example/lienwright/lienwright/LevelPayment$Binary", "exceedsOne", "()Z"⟩ : MethodName)) (z := (⟨"com/example/lienwright/lienwright/LevelPayment$Binary", "exceedsOne", "()Z"⟩ : MethodName)) hown (mvT hZ (hw _ (List.mem_of_getElem? (i := 20) rfl))) (mvT hZ (hw _ (List.mem_of_getElem? (i := 21) rfl))) (notFace_of_selects (args := #[]) (mvT hZ (hw _ (List.mem_of_getElem? (i := 23) rfl)))) (mvT hZ (hw _ (List.mem_of_getElem? (i := 23) rfl))) (mvT hZ (hw _ (List.mem_of_getElem? (i := 22) rfl))) (by decide) (backOf (W := 0) (rm4 l Z a0 hw [] b1 vm ve T3.heap n0 Z4z Fa3_0 Fa3_1) hZ (hw _ (List.mem_of_getElem? (i := 24) rfl)) (hw _ (List.mem_of_getElem? (i := 4) rfl)) (by decide) (by decide)) q5a q5c (g := (mkF m 76 #[.val (.long q0), .second, .val (.int p2), .val (.int p3), .val (.long (4611686018427387904 : Int64)), .second, .val (.long vm), .second, .val (.int ve), .val (.ref b1), .val (.int (1 : Int32))] [(.ref b1)])) rfl (by rw [hml]; rfl) (Steps.refl _) (argsL := []) (rest := []) (lenOf own_pd_2 rfl) rfl (by show 2 * 0 + _ ≤ _; exact Nat.le_of_eq rfl) (hb hby at_76) (fun _ _ => ⟨rfl, rfl, (by decide : 1 + 0 ≤ _), (by decide : 2 + 0 ≤ _)⟩)
          dsimp only [Pt.U, Pt.locs, Pt.cells, Pt.slots] at X5 l5 y5 z5 st5 hQ5
          subst l5 y5 z5
          obtain ⟨rfl, Nq5, eq5⟩ := hQ5
          have N5 := Fr.app N3 Nq5
          refine go _ (T5.setTop (mkF m 79 #[.val (.long q0), .second, .val (.int p2), .val (.int p3), .val (.long (4611686018427387904 : Int64)), .second, .val (.long vm), .second, .val (.int ve), .val (.ref b1), .val (.int (1 : Int32))] [(.int (own_spec4 vm ve))])) (fun t k => st5.trans k) ?_
          refine go _ (T5.setTop (mkF m 81 #[.val (.long q0), .second, .val (.int p2), .val (.int p3), .val (.long (4611686018427387904 : Int64)), .second, .val (.long vm), .second, .val (.int ve), .val (.ref b1), .val (.int (1 : Int32))] [(.int (1 : Int32)), (.int (own_spec4 vm ve))])) (fun t k => XS.iload X5.here hx rfl (hb hby at_79) rfl k) ?_
          have hc81 : ¬ ((1 : Int32) = (0 : Int32)) := by decide
          refine go _ (T5.setTop (mkF m 88 #[.val (.long q0), .second, .val (.int p2), .val (.int p3), .val (.long (4611686018427387904 : Int64)), .second, .val (.long vm), .second, .val (.int ve), .val (.ref b1), .val (.int (1 : Int32))] [(.int (own_spec4 vm ve))])) (fun t k => XS.ifYes X5.here hx rfl (pc0 := 81) (pc' := 88) rfl (hb hby at_81) rfl ((if0 _ _).trans (feq hc81).2) (by decide) (by decide) k) ?_
          refine go _ (T5.setTop (mkF m 89 #[.val (.long q0), .second, .val (.int p2), .val (.int p3), .val (.long (4611686018427387904 : Int64)), .second, .val (.long vm), .second, .val (.int ve), .val (.ref b1), .val (.int (1 : Int32))] [(.int (0 : Int32)), (.int (own_spec4 vm ve))])) (fun t k => XS.iconst X5.here hx rfl (hb hby at_88) k) ?_
          have hc89 : (own_spec4 vm ve) = (0 : Int32) := by rw [hc59, hc64]; decide
          refine go _ (T5.setTop (mkF m 92 #[.val (.long q0), .second, .val (.int p2), .val (.int p3), .val (.long (4611686018427387904 : Int64)), .second, .val (.long vm), .second, .val (.int ve), .val (.ref b1), .val (.int (1 : Int32))] [])) (fun t k => XS.icmpNo X5.here hx rfl (hb hby at_89) rfl (teq hc89).2 k) ?_
          refine go _ (T5.setTop (mkF m 93 #[.val (.long q0), .second, .val (.int p2), .val (.int p3), .val (.long (4611686018427387904 : Int64)), .second, .val (.long vm), .second, .val (.int ve), .val (.ref b1), .val (.int (1 : Int32))] [(.int (1 : Int32))])) (fun t k => XS.iconst X5.here hx rfl (hb hby at_92) k) ?_
          refine go _ (T5.setTop (mkF m 97 #[.val (.long q0), .second, .val (.int p2), .val (.int p3), .val (.long (4611686018427387904 : Int64)), .second, .val (.long vm), .second, .val (.int ve), .val (.ref b1), .val (.int (1 : Int32))] [(.int (1 : Int32))])) (fun t k => XS.goto X5.here hx rfl (pc0 := 93) (pc' := 97) rfl (hb hby at_93) (by decide) (by decide) k) ?_
          refine fin (some (.int (1 : Int32))) (mkF m 97 #[.val (.long q0), .second, .val (.int p2), .val (.int p3), .val (.long (4611686018427387904 : Int64)), .second, .val (.long vm), .second, .val (.int ve), .val (.ref b1), .val (.int (1 : Int32))] [(.int (1 : Int32))]) X5 (fun h => by cases h) (fun fs hr => retOut X5 hx (t := .boolean) hret rfl (Or.inl ⟨rfl, by simp, _, rfl⟩) (hb hby at_97) hr) ?_ (by decide) (by decide)
          exact ⟨rfl, N5⟩
        · refine go _ (T3.setTop (mkF m 71 #[.val (.long q0), .second, .val (.int p2), .val (.int p3), .val (.long (4611686018427387904 : Int64)), .second, .val (.long vm), .second, .val (.int ve), .val (.ref b1), .unset] [])) (fun t k => XS.ifYes X3.here hx rfl (pc0 := 64) (pc' := 71) rfl (hb hby at_64) rfl ((if0 _ _).trans (feq hc64).2) (by decide) (by decide) k) ?_
          refine go _ (T3.setTop (mkF m 72 #[.val (.long q0), .second, .val (.int p2), .val (.int p3), .val (.long (4611686018427387904 : Int64)), .second, .val (.long vm), .second, .val (.int ve), .val (.ref b1), .unset] [(.int (0 : Int32))])) (fun t k => XS.iconst X3.here hx rfl (hb hby at_71) k) ?_
          refine go _ (T3.setTop (mkF m 74 #[.val (.long q0), .second, .val (.int p2), .val (.int p3), .val (.long (4611686018427387904 : Int64)), .second, .val (.long vm), .second, .val (.int ve), .val (.ref b1), .val (.int (0 : Int32))] [])) (fun t k => XS.istore X3.here hx rfl (hb hby at_72) rfl (l' := #[.val (.long q0), .second, .val (.int p2), .val (.int p3), .val (.long (4611686018427387904 : Int64)), .second, .val (.long vm), .second, .val (.int ve), .val (.ref b1), .val (.int (0 : Int32))]) rfl k) ?_
          refine go _ (T3.setTop (mkF m 76 #[.val (.long q0), .second, .val (.int p2), .val (.int p3), .val (.long (4611686018427387904 : Int64)), .second, .val (.long vm), .second, .val (.int ve), .val (.ref b1), .val (.int (0 : Int32))] [(.ref b1)])) (fun t k => XS.aload X3.here hx rfl (hb hby at_74) rfl rfl k) ?_
          have Z6z : n0 ≤ T3.heap.size := (Nat.le_trans Z2z K3.1)
          obtain ⟨cq7, kq7, q7a, q7b, q7c⟩ := isOf hZ rfl Ex3
          obtain ⟨_, _, ⟨T7, L7, k7, n7⟩, -, X7, ⟨Lc7, hQ7, l7, y7, z7⟩, st7⟩ := X3.virtualBack hx (y := (⟨"com/example/lienwright/lienwright/LevelPayment$Binary", "exceedsOne", "()Z"⟩ : MethodName)) (z := (⟨"com/example/lienwright/lienwright/LevelPayment$Binary", "exceedsOne", "()Z"⟩ : MethodName)) hown (mvT hZ (hw _ (List.mem_of_getElem? (i := 20) rfl))) (mvT hZ (hw _ (List.mem_of_getElem? (i := 21) rfl))) (notFace_of_selects (args := #[]) (mvT hZ (hw _ (List.mem_of_getElem? (i := 23) rfl)))) (mvT hZ (hw _ (List.mem_of_getElem? (i := 23) rfl))) (mvT hZ (hw _ (List.mem_of_getElem? (i := 22) rfl))) (by decide) (backOf (W := 0) (rm4 l Z a0 hw [] b1 vm ve T3.heap n0 Z6z Fa3_0 Fa3_1) hZ (hw _ (List.mem_of_getElem? (i := 24) rfl)) (hw _ (List.mem_of_getElem? (i := 4) rfl)) (by decide) (by decide)) q7a q7c (g := (mkF m 76 #[.val (.long q0), .second, .val (.int p2), .val (.int p3), .val (.long (4611686018427387904 : Int64)), .second, .val (.long vm), .second, .val (.int ve), .val (.ref b1), .val (.int (0 : Int32))] [(.ref b1)])) rfl (by rw [hml]; rfl) (Steps.refl _) (argsL := []) (rest := []) (lenOf own_pd_2 rfl) rfl (by show 2 * 0 + _ ≤ _; exact Nat.le_of_eq rfl) (hb hby at_76) (fun _ _ => ⟨rfl, rfl, (by decide : 1 + 0 ≤ _), (by decide : 2 + 0 ≤ _)⟩)
          dsimp only [Pt.U, Pt.locs, Pt.cells, Pt.slots] at X7 l7 y7 z7 st7 hQ7
          subst l7 y7 z7
          obtain ⟨rfl, Nq7, eq7⟩ := hQ7
          have N7 := Fr.app N3 Nq7
          refine go _ (T7.setTop (mkF m 79 #[.val (.long q0), .second, .val (.int p2), .val (.int p3), .val (.long (4611686018427387904 : Int64)), .second, .val (.long vm), .second, .val (.int ve), .val (.ref b1), .val (.int (0 : Int32))] [(.int (own_spec4 vm ve))])) (fun t k => st7.trans k) ?_
          refine go _ (T7.setTop (mkF m 81 #[.val (.long q0), .second, .val (.int p2), .val (.int p3), .val (.long (4611686018427387904 : Int64)), .second, .val (.long vm), .second, .val (.int ve), .val (.ref b1), .val (.int (0 : Int32))] [(.int (0 : Int32)), (.int (own_spec4 vm ve))])) (fun t k => XS.iload X7.here hx rfl (hb hby at_79) rfl k) ?_
          have hc81 : (0 : Int32) = (0 : Int32) := by decide
          refine go _ (T7.setTop (mkF m 84 #[.val (.long q0), .second, .val (.int p2), .val (.int p3), .val (.long (4611686018427387904 : Int64)), .second, .val (.long vm), .second, .val (.int ve), .val (.ref b1), .val (.int (0 : Int32))] [(.int (own_spec4 vm ve))])) (fun t k => XS.ifNo X7.here hx rfl (hb hby at_81) rfl ((if0 _ _).trans (teq hc81).2) k) ?_
          refine go _ (T7.setTop (mkF m 85 #[.val (.long q0), .second, .val (.int p2), .val (.int p3), .val (.long (4611686018427387904 : Int64)), .second, .val (.long vm), .second, .val (.int ve), .val (.ref b1), .val (.int (0 : Int32))] [(.int (1 : Int32)), (.int (own_spec4 vm ve))])) (fun t k => XS.iconst X7.here hx rfl (hb hby at_84) k) ?_
          refine go _ (T7.setTop (mkF m 89 #[.val (.long q0), .second, .val (.int p2), .val (.int p3), .val (.long (4611686018427387904 : Int64)), .second, .val (.long vm), .second, .val (.int ve), .val (.ref b1), .val (.int (0 : Int32))] [(.int (1 : Int32)), (.int (own_spec4 vm ve))])) (fun t k => XS.goto X7.here hx rfl (pc0 := 85) (pc' := 89) rfl (hb hby at_85) (by decide) (by decide) k) ?_
          have hc89 : (own_spec4 vm ve) = (1 : Int32) := by simp [own_spec4, own_pos he hc64]
          refine go _ (T7.setTop (mkF m 92 #[.val (.long q0), .second, .val (.int p2), .val (.int p3), .val (.long (4611686018427387904 : Int64)), .second, .val (.long vm), .second, .val (.int ve), .val (.ref b1), .val (.int (0 : Int32))] [])) (fun t k => XS.icmpNo X7.here hx rfl (hb hby at_89) rfl (teq hc89).2 k) ?_
          refine go _ (T7.setTop (mkF m 93 #[.val (.long q0), .second, .val (.int p2), .val (.int p3), .val (.long (4611686018427387904 : Int64)), .second, .val (.long vm), .second, .val (.int ve), .val (.ref b1), .val (.int (0 : Int32))] [(.int (1 : Int32))])) (fun t k => XS.iconst X7.here hx rfl (hb hby at_92) k) ?_
          refine go _ (T7.setTop (mkF m 97 #[.val (.long q0), .second, .val (.int p2), .val (.int p3), .val (.long (4611686018427387904 : Int64)), .second, .val (.long vm), .second, .val (.int ve), .val (.ref b1), .val (.int (0 : Int32))] [(.int (1 : Int32))])) (fun t k => XS.goto X7.here hx rfl (pc0 := 93) (pc' := 97) rfl (hb hby at_93) (by decide) (by decide) k) ?_
          refine fin (some (.int (1 : Int32))) (mkF m 97 #[.val (.long q0), .second, .val (.int p2), .val (.int p3), .val (.long (4611686018427387904 : Int64)), .second, .val (.long vm), .second, .val (.int ve), .val (.ref b1), .val (.int (0 : Int32))] [(.int (1 : Int32))]) X7 (fun h => by cases h) (fun fs hr => retOut X7 hx (t := .boolean) hret rfl (Or.inl ⟨rfl, by simp, _, rfl⟩) (hb hby at_97) hr) ?_ (by decide) (by decide)
          exact ⟨rfl, N7⟩
      · refine go _ (T3.setTop (mkF m 71 #[.val (.long q0), .second, .val (.int p2), .val (.int p3), .val (.long (4611686018427387904 : Int64)), .second, .val (.long vm), .second, .val (.int ve), .val (.ref b1), .unset] [])) (fun t k => XS.ifYes X3.here hx rfl (pc0 := 59) (pc' := 71) rfl (hb hby at_59) rfl ((if0 _ _).trans (feq (fun q => hc59 ((lw_eq _ _).mp q))).2) (by decide) (by decide) k) ?_
        refine go _ (T3.setTop (mkF m 72 #[.val (.long q0), .second, .val (.int p2), .val (.int p3), .val (.long (4611686018427387904 : Int64)), .second, .val (.long vm), .second, .val (.int ve), .val (.ref b1), .unset] [(.int (0 : Int32))])) (fun t k => XS.iconst X3.here hx rfl (hb hby at_71) k) ?_
        refine go _ (T3.setTop (mkF m 74 #[.val (.long q0), .second, .val (.int p2), .val (.int p3), .val (.long (4611686018427387904 : Int64)), .second, .val (.long vm), .second, .val (.int ve), .val (.ref b1), .val (.int (0 : Int32))] [])) (fun t k => XS.istore X3.here hx rfl (hb hby at_72) rfl (l' := #[.val (.long q0), .second, .val (.int p2), .val (.int p3), .val (.long (4611686018427387904 : Int64)), .second, .val (.long vm), .second, .val (.int ve), .val (.ref b1), .val (.int (0 : Int32))]) rfl k) ?_
        refine go _ (T3.setTop (mkF m 76 #[.val (.long q0), .second, .val (.int p2), .val (.int p3), .val (.long (4611686018427387904 : Int64)), .second, .val (.long vm), .second, .val (.int ve), .val (.ref b1), .val (.int (0 : Int32))] [(.ref b1)])) (fun t k => XS.aload X3.here hx rfl (hb hby at_74) rfl rfl k) ?_
        have Z8z : n0 ≤ T3.heap.size := (Nat.le_trans Z2z K3.1)
        obtain ⟨cq9, kq9, q9a, q9b, q9c⟩ := isOf hZ rfl Ex3
        obtain ⟨_, _, ⟨T9, L9, k9, n9⟩, -, X9, ⟨Lc9, hQ9, l9, y9, z9⟩, st9⟩ := X3.virtualBack hx (y := (⟨"com/example/lienwright/lienwright/LevelPayment$Binary", "exceedsOne", "()Z"⟩ : MethodName)) (z := (⟨"com/example/lienwright/lienwright/LevelPayment$Binary", "exceedsOne", "()Z"⟩ : MethodName)) hown (mvT hZ (hw _ (List.mem_of_getElem? (i := 20) rfl))) (mvT hZ (hw _ (List.mem_of_getElem? (i := 21) rfl))) (notFace_of_selects (args := #[]) (mvT hZ (hw _ (List.mem_of_getElem? (i := 23) rfl)))) (mvT hZ (hw _ (List.mem_of_getElem? (i := 23) rfl))) (mvT hZ (hw _ (List.mem_of_getElem? (i := 22) rfl))) (by decide) (backOf (W := 0) (rm4 l Z a0 hw [] b1 vm ve T3.heap n0 Z8z Fa3_0 Fa3_1) hZ (hw _ (List.mem_of_getElem? (i := 24) rfl)) (hw _ (List.mem_of_getElem? (i := 4) rfl)) (by decide) (by decide)) q9a q9c (g := (mkF m 76 #[.val (.long q0), .second, .val (.int p2), .val (.int p3), .val (.long (4611686018427387904 : Int64)), .second, .val (.long vm), .second, .val (.int ve), .val (.ref b1), .val (.int (0 : Int32))] [(.ref b1)])) rfl (by rw [hml]; rfl) (Steps.refl _) (argsL := []) (rest := []) (lenOf own_pd_2 rfl) rfl (by show 2 * 0 + _ ≤ _; exact Nat.le_of_eq rfl) (hb hby at_76) (fun _ _ => ⟨rfl, rfl, (by decide : 1 + 0 ≤ _), (by decide : 2 + 0 ≤ _)⟩)
        dsimp only [Pt.U, Pt.locs, Pt.cells, Pt.slots] at X9 l9 y9 z9 st9 hQ9
        subst l9 y9 z9
        obtain ⟨rfl, Nq9, eq9⟩ := hQ9
        have N9 := Fr.app N3 Nq9
        refine go _ (T9.setTop (mkF m 79 #[.val (.long q0), .second, .val (.int p2), .val (.int p3), .val (.long (4611686018427387904 : Int64)), .second, .val (.long vm), .second, .val (.int ve), .val (.ref b1), .val (.int (0 : Int32))] [(.int (own_spec4 vm ve))])) (fun t k => st9.trans k) ?_
        refine go _ (T9.setTop (mkF m 81 #[.val (.long q0), .second, .val (.int p2), .val (.int p3), .val (.long (4611686018427387904 : Int64)), .second, .val (.long vm), .second, .val (.int ve), .val (.ref b1), .val (.int (0 : Int32))] [(.int (0 : Int32)), (.int (own_spec4 vm ve))])) (fun t k => XS.iload X9.here hx rfl (hb hby at_79) rfl k) ?_
        have hc81 : (0 : Int32) = (0 : Int32) := by decide
        refine go _ (T9.setTop (mkF m 84 #[.val (.long q0), .second, .val (.int p2), .val (.int p3), .val (.long (4611686018427387904 : Int64)), .second, .val (.long vm), .second, .val (.int ve), .val (.ref b1), .val (.int (0 : Int32))] [(.int (own_spec4 vm ve))])) (fun t k => XS.ifNo X9.here hx rfl (hb hby at_81) rfl ((if0 _ _).trans (teq hc81).2) k) ?_
        refine go _ (T9.setTop (mkF m 85 #[.val (.long q0), .second, .val (.int p2), .val (.int p3), .val (.long (4611686018427387904 : Int64)), .second, .val (.long vm), .second, .val (.int ve), .val (.ref b1), .val (.int (0 : Int32))] [(.int (1 : Int32)), (.int (own_spec4 vm ve))])) (fun t k => XS.iconst X9.here hx rfl (hb hby at_84) k) ?_
        refine go _ (T9.setTop (mkF m 89 #[.val (.long q0), .second, .val (.int p2), .val (.int p3), .val (.long (4611686018427387904 : Int64)), .second, .val (.long vm), .second, .val (.int ve), .val (.ref b1), .val (.int (0 : Int32))] [(.int (1 : Int32)), (.int (own_spec4 vm ve))])) (fun t k => XS.goto X9.here hx rfl (pc0 := 85) (pc' := 89) rfl (hb hby at_85) (by decide) (by decide) k) ?_
        have hc89 : (own_spec4 vm ve) = (1 : Int32) := by simp [own_spec4, own_big hm hc59]
        refine go _ (T9.setTop (mkF m 92 #[.val (.long q0), .second, .val (.int p2), .val (.int p3), .val (.long (4611686018427387904 : Int64)), .second, .val (.long vm), .second, .val (.int ve), .val (.ref b1), .val (.int (0 : Int32))] [])) (fun t k => XS.icmpNo X9.here hx rfl (hb hby at_89) rfl (teq hc89).2 k) ?_
        refine go _ (T9.setTop (mkF m 93 #[.val (.long q0), .second, .val (.int p2), .val (.int p3), .val (.long (4611686018427387904 : Int64)), .second, .val (.long vm), .second, .val (.int ve), .val (.ref b1), .val (.int (0 : Int32))] [(.int (1 : Int32))])) (fun t k => XS.iconst X9.here hx rfl (hb hby at_92) k) ?_
        refine go _ (T9.setTop (mkF m 97 #[.val (.long q0), .second, .val (.int p2), .val (.int p3), .val (.long (4611686018427387904 : Int64)), .second, .val (.long vm), .second, .val (.int ve), .val (.ref b1), .val (.int (0 : Int32))] [(.int (1 : Int32))])) (fun t k => XS.goto X9.here hx rfl (pc0 := 93) (pc' := 97) rfl (hb hby at_93) (by decide) (by decide) k) ?_
        refine fin (some (.int (1 : Int32))) (mkF m 97 #[.val (.long q0), .second, .val (.int p2), .val (.int p3), .val (.long (4611686018427387904 : Int64)), .second, .val (.long vm), .second, .val (.int ve), .val (.ref b1), .val (.int (0 : Int32))] [(.int (1 : Int32))]) X9 (fun h => by cases h) (fun fs hr => retOut X9 hx (t := .boolean) hret rfl (Or.inl ⟨rfl, by simp, _, rfl⟩) (hb hby at_97) hr) ?_ (by decide) (by decide)
        exact ⟨rfl, N9⟩
    refine go _ (s₁.setTop (mkF m 33 #[.val (.long q0), .second, .val (.int p2), .val (.int p3), .val (.long (4611686018427387904 : Int64)), .second, .val (.long vm), .second, .val (.int (p2 &&& (2147483647 : Int32))), .unset, .unset] [(.int p3)])) (fun t k => XS.iloadN X0.here hx rfl (hb hby at_32) rfl k) ?_
    refine go _ (s₁.setTop (mkF m 34 #[.val (.long q0), .second, .val (.int p2), .val (.int p3), .val (.long (4611686018427387904 : Int64)), .second, .val (.long vm), .second, .val (.int (p2 &&& (2147483647 : Int32))), .unset, .unset] [(.int (2 : Int32)), (.int p3)])) (fun t k => XS.iconst X0.here hx rfl (hb hby at_33) k) ?_
    refine go _ (s₁.setTop (mkF m 35 #[.val (.long q0), .second, .val (.int p2), .val (.int p3), .val (.long (4611686018427387904 : Int64)), .second, .val (.long vm), .second, .val (.int (p2 &&& (2147483647 : Int32))), .unset, .unset] [(.int (p3 &&& (2 : Int32)))])) (fun t k => XS.iand X0.here hx rfl (hb hby at_34) rfl k) ?_
    rcases Decidable.em ((p3 &&& (2 : Int32)) = (0 : Int32)) with hc35 | hc35
    · refine go _ (s₁.setTop (mkF m 41 #[.val (.long q0), .second, .val (.int p2), .val (.int p3), .val (.long (4611686018427387904 : Int64)), .second, .val (.long vm), .second, .val (.int (p2 &&& (2147483647 : Int32))), .unset, .unset] [])) (fun t k => XS.ifYes X0.here hx rfl (pc0 := 35) (pc' := 41) rfl (hb hby at_35) rfl ((if0 _ _).trans (teq hc35).1) (by decide) (by decide) k) ?_
      exact j41 (p2 &&& (2147483647 : Int32)) (own_exp _)
    · refine go _ (s₁.setTop (mkF m 38 #[.val (.long q0), .second, .val (.int p2), .val (.int p3), .val (.long (4611686018427387904 : Int64)), .second, .val (.long vm), .second, .val (.int (p2 &&& (2147483647 : Int32))), .unset, .unset] [])) (fun t k => XS.ifNo X0.here hx rfl (hb hby at_35) rfl ((if0 _ _).trans (feq hc35).1) k) ?_
      refine go _ (s₁.setTop (mkF m 39 #[.val (.long q0), .second, .val (.int p2), .val (.int p3), .val (.long (4611686018427387904 : Int64)), .second, .val (.long vm), .second, .val (.int (p2 &&& (2147483647 : Int32))), .unset, .unset] [(.int (0 : Int32))])) (fun t k => XS.iconst X0.here hx rfl (hb hby at_38) k) ?_
      refine go _ (s₁.setTop (mkF m 41 #[.val (.long q0), .second, .val (.int p2), .val (.int p3), .val (.long (4611686018427387904 : Int64)), .second, .val (.long vm), .second, .val (.int (0 : Int32)), .unset, .unset] [])) (fun t k => XS.istore X0.here hx rfl (hb hby at_39) rfl (l' := #[.val (.long q0), .second, .val (.int p2), .val (.int p3), .val (.long (4611686018427387904 : Int64)), .second, .val (.long vm), .second, .val (.int (0 : Int32)), .unset, .unset]) rfl k) ?_
      exact j41 (0 : Int32) (by decide)
  refine go _ (s₁.setTop (mkF m 17 #[.val (.long q0), .second, .val (.int p2), .val (.int p3), .val (.long (4611686018427387904 : Int64)), .second, .val (.long ((4611686018427387904 : Int64) + (q0 &&& ((4611686018427387904 : Int64) - (1 : Int64))))), .second, .unset, .unset, .unset] [(.int p3)])) (fun t k => XS.iloadN X0.here hx rfl (hb hby at_16) rfl k) ?_
  refine go _ (s₁.setTop (mkF m 18 #[.val (.long q0), .second, .val (.int p2), .val (.int p3), .val (.long (4611686018427387904 : Int64)), .second, .val (.long ((4611686018427387904 : Int64) + (q0 &&& ((4611686018427387904 : Int64) - (1 : Int64))))), .second, .unset, .unset, .unset] [(.int (1 : Int32)), (.int p3)])) (fun t k => XS.iconst X0.here hx rfl (hb hby at_17) k) ?_
  refine go _ (s₁.setTop (mkF m 19 #[.val (.long q0), .second, .val (.int p2), .val (.int p3), .val (.long (4611686018427387904 : Int64)), .second, .val (.long ((4611686018427387904 : Int64) + (q0 &&& ((4611686018427387904 : Int64) - (1 : Int64))))), .second, .unset, .unset, .unset] [(.int (p3 &&& (1 : Int32)))])) (fun t k => XS.iand X0.here hx rfl (hb hby at_18) rfl k) ?_
  rcases Decidable.em ((p3 &&& (1 : Int32)) = (0 : Int32)) with hc19 | hc19
  · refine go _ (s₁.setTop (mkF m 26 #[.val (.long q0), .second, .val (.int p2), .val (.int p3), .val (.long (4611686018427387904 : Int64)), .second, .val (.long ((4611686018427387904 : Int64) + (q0 &&& ((4611686018427387904 : Int64) - (1 : Int64))))), .second, .unset, .unset, .unset] [])) (fun t k => XS.ifYes X0.here hx rfl (pc0 := 19) (pc' := 26) rfl (hb hby at_19) rfl ((if0 _ _).trans (teq hc19).1) (by decide) (by decide) k) ?_
    exact j26 ((4611686018427387904 : Int64) + (q0 &&& ((4611686018427387904 : Int64) - (1 : Int64)))) (own_mant q0)
  · refine go _ (s₁.setTop (mkF m 22 #[.val (.long q0), .second, .val (.int p2), .val (.int p3), .val (.long (4611686018427387904 : Int64)), .second, .val (.long ((4611686018427387904 : Int64) + (q0 &&& ((4611686018427387904 : Int64) - (1 : Int64))))), .second, .unset, .unset, .unset] [])) (fun t k => XS.ifNo X0.here hx rfl (hb hby at_19) rfl ((if0 _ _).trans (feq hc19).1) k) ?_
    refine go _ (s₁.setTop (mkF m 24 #[.val (.long q0), .second, .val (.int p2), .val (.int p3), .val (.long (4611686018427387904 : Int64)), .second, .val (.long ((4611686018427387904 : Int64) + (q0 &&& ((4611686018427387904 : Int64) - (1 : Int64))))), .second, .unset, .unset, .unset] [(.long (4611686018427387904 : Int64))])) (fun t k => XS.lload X0.here hx rfl (hb hby at_22) rfl k) ?_
    refine go _ (s₁.setTop (mkF m 26 #[.val (.long q0), .second, .val (.int p2), .val (.int p3), .val (.long (4611686018427387904 : Int64)), .second, .val (.long (4611686018427387904 : Int64)), .second, .unset, .unset, .unset] [])) (fun t k => XS.lstore X0.here hx rfl (hb hby at_24) rfl (l' := #[.val (.long q0), .second, .val (.int p2), .val (.int p3), .val (.long (4611686018427387904 : Int64)), .second, .val (.long (4611686018427387904 : Int64)), .second, .unset, .unset, .unset]) rfl k) ?_
    exact j26 (4611686018427387904 : Int64) (by decide)
set_option maxRecDepth 65536 in
set_option maxHeartbeats 40000000 in
theorem comes_1 {Post : Tables → Env → Array Value → State → Outcome → State → Prop} (hpost : ∀ tb e args s v u, (limb_1_1.after args s (.returned v) u = true ∧ limb_1_2.after args s (.returned v) u = true ∧ True) → FrameEnd s (.returned v) u (Jvm.fieldLocs frame_1_writes args s ++ Jvm.arrayLocs frame_1_arrays args s ++ Jvm.staticLocs frame_1_statics s) 16 128 → Post tb e args s (.returned v) u) :
    ArmFor flags0 classFile x code maxLocals ret World_1 tables_1 room_1 Calls_1 rest_1 Pre_1 Post := by
  intro l hfl _ _ p e ha hc hk s m args below hf hA hF happ hP
  obtain ⟨hcalls, hrest, hpre⟩ := hP
  obtain ⟨-, -, -, hnamed, -, -, -, hat⟩ := (Spec.applies_iff hf).mp happ
  obtain ⟨hg, hn⟩ := and_e (Cond.before_iff.mp (show (Jvm.Cond.and given_1 narrow_1).before args s = true from hpre))
  obtain ⟨gg1, gg2⟩ := and_e hg
  obtain ⟨gg3, gg4⟩ := and_e gg2
  obtain ⟨gg5, gg6⟩ := and_e gg4
  obtain ⟨w0, w1, w2, rfl⟩ : ∃ w0 w1 w2 : Value, args = #[w0, w1, w2] := by
    have hs : args.size = 3 := by simpa [Cond.value, given_1] using gg1
    obtain ⟨L⟩ := args
    match L, hs with
    | [w0, w1, w2], _ => exact ⟨w0, w1, w2, rfl⟩
  have hw := fun d (hd : d ∈ tables_1) => atoms_spec (ws := Jvm.Cond.code x code maxLocals ret :: tables_1) hat d (List.mem_cons_of_mem _ hd)
  have hfit : Fit s := fun {y c} hc i hi => by
    obtain ⟨ha, rfl⟩ := Array.getElem?_eq_some_iff.mp hc
    have q := List.all_eq_true.mp ((Array.all_eq_true_iff_forall_mem.mp hF) _ (Array.getElem_mem ha)) i (List.mem_range.mpr hi)
    simpa [Array.getElem?_eq_getElem hi] using q
  obtain ⟨i0, ei0⟩ := isL_v gg3
  obtain rfl : w0 = (.long i0) := Option.some.inj ei0
  obtain ⟨i1, ei1⟩ := is_v gg5
  obtain rfl : w1 = (.int i1) := Option.some.inj ei1
  obtain ⟨i2, ei2⟩ := is_v gg6
  obtain rfl : w2 = (.int i2) := Option.some.inj ei2
  obtain ⟨n, o, h1, h2, h3, _, L, rfl, ⟨rfl, N⟩, hq⟩ := rm0 l s _ hw tables_1 i0 i1 i2 s.heap s.heap.size (Nat.le_refl _)  p e ha hc hk s m _ below hf ((Spec.applies_iff_loose hf).mp happ).1 ⟨rfl, State.Warmed39.refl s, rfl⟩ trivial
  refine ⟨n, _, h1, h2, h3, hpost _ _ _ _ _ _ ⟨Cond.after_iff.mpr rfl, Cond.after_iff.mpr (eq_i res_at (Term.int_eval (1)) rfl), trivial⟩ ⟨hq.1, hq.2.1, (hq.2.2.sift fun y hy => Or.inr (N y hy)).mono (by decide) (by decide)⟩⟩
theorem main_1_1 : Claimed_1_1 := comes_1 fun _ _ _ _ _ _ h hF => ⟨h.1, hF⟩
theorem main_1_2 : Claimed_1_2 := comes_1 fun _ _ _ _ _ _ h hF => ⟨h.2.1, hF⟩
end Jvm.Pilot.@@N@@
namespace Jvm.Pilot.@@N@@
open Jvm Jvm.ClassFile Sem Op Lib Jvm.Free Jvm.Stand Jvm.Pilot.@@N@@.Jvm.D
/-! MADE BY PROGRAM (witnessworld.py) out of the Statement's table words and the real class files: 10 classes; the members and pool entries that the words name. The judged class is class 1, her method 1. -/
namespace start1
open Jvm.ClassFile
def u (s : String) : CpInfo := .utf8 (stringToUtf16 s)
/-- a pool by its gaps: so many unusable entries, then the entry; so many at the end -/
def gap : Nat → List CpInfo → List CpInfo
  | 0, r => r
  | n + 1, r => .unusable :: gap n r
def poolList (es : List (Nat × CpInfo)) (last : Nat) : List CpInfo := es.foldr (fun e r => gap e.1 (e.2 :: r)) (gap last [])
def pool (es : List (Nat × CpInfo)) (last : Nat) : Array CpInfo := ⟨poolList es last⟩
def fileOf (pool : Array CpInfo) (this : Nat) (attrs : Array Attribute := #[]) (ms : Array MethodInfo := #[]) (fl : Nat := 33) (sup : Nat := 0) (ifs : Array Nat := #[]) (fds : Array FieldInfo := #[]) : ClassFile where
  minorVersion := 0
  majorVersion := 65
  constantPool := pool
  accessFlags := fl
  thisClass := this
  superClass := sup
  interfaces := ifs
  fields := fds
  methods := ms
  attributes := attrs
def plain (name : String) (sup : Option ClassId) : Class where
  name := name
  kind := .ordinary
  loader := none
  accessFlags := 33
  super := sup
  interfaces := #[]
  cf := none
  fields := #[]
  methods := #[]
  instanceTypes := #[]
  staticTypes := #[]
  resolved := #[]
  callSites := []
  init := .initialized
  statics := none
  mirror := none

def pool0 : Array CpInfo := pool [(5, u "<init>"), (0, u "()V"), (1, .class_ 10), (1, u "java/lang/Object")] 113

def k0c0 : Code := { maxStack := 0, maxLocals := 1, code := object_method_1_code, exceptionTable := #[], attributes := #[] }
def k0m0 : Method := { name := "<init>", desc := "()V", sig := { parameters := [], returnType := none }, accessFlags := 1, code := some k0c0 }
/-- java/lang/Object -/
def k0 : Class := { plain "java/lang/Object" none with
  accessFlags := 33
  interfaces := #[]
  cf := some (fileOf pool0 8 #[] #[{ accessFlags := 1, nameIndex := 5, descriptorIndex := 6, attributes := #[] }] 33 0 #[] #[])
  fields := #[]
  methods := #[k0m0]
  instanceTypes := #[]
  staticTypes := #[]
  resolved := Array.replicate 124 none
  statics := none }

def pool1 : Array CpInfo := pool [(2, .class_ 4), (1, u "java/lang/Object"), (0, u "<init>"), (0, u "()V"), (0, .long 4611686018427387904), (1, .integer 2147483647), (0, .class_ 11), (0, u "com/example/lienwright/lienwright/LevelPayment$Binary"), (0, .methodref 10 13), (0, .nameAndType 5 14), (0, u "(JI)V"), (0, .methodref 10 16), (0, .nameAndType 17 18), (0, u "exceedsOne"), (0, u "()Z"), (0, .class_ 20), (0, u "com/example/lienwright/lienwright/BinaryExceedsOnePinLaw"), (2, u "law"), (0, u "(JII)Z")] 7

def k1m0 : Method := { name := "<init>", desc := "()V", sig := { parameters := [], returnType := none }, accessFlags := 2, code := none }
def k1c1 : Code := { maxStack := 8, maxLocals := 11, code := code, exceptionTable := #[], attributes := #[] }
def k1m1 : Method := { name := "law", desc := "(JII)Z", sig := { parameters := [.long, .int, .int], returnType := some .boolean }, accessFlags := 9, code := some k1c1 }
/-- com/example/lienwright/lienwright/BinaryExceedsOnePinLaw -/
def k1 : Class := { plain "com/example/lienwright/lienwright/BinaryExceedsOnePinLaw" (some 0) with
  accessFlags := 49
  interfaces := #[]
  cf := some (fileOf pool1 19 #[] #[{ accessFlags := 2, nameIndex := 5, descriptorIndex := 6, attributes := #[] }, { accessFlags := 9, nameIndex := 23, descriptorIndex := 24, attributes := #[] }] 49 2 #[] #[])
  fields := #[]
  methods := #[k1m0, k1m1]
  instanceTypes := #[]
  staticTypes := #[]
  resolved := Array.replicate 32 none
  statics := none }

def pool2 : Array CpInfo := pool [(1, .methodref 2 3), (0, .class_ 4), (0, .nameAndType 5 6), (0, u "java/lang/Object"), (0, u "<init>"), (0, u "()V"), (0, .class_ 8), (0, u "java/lang/Record")] 13

def k2c0 : Code := { maxStack := 1, maxLocals := 1, code := jdk_30_method_1_code, exceptionTable := #[], attributes := #[] }
def k2m0 : Method := { name := "<init>", desc := "()V", sig := { parameters := [], returnType := none }, accessFlags := 4, code := some k2c0 }
/-- java/lang/Record -/
def k2 : Class := { plain "java/lang/Record" (some 0) with
  accessFlags := 1057
  interfaces := #[]
  cf := some (fileOf pool2 7 #[] #[{ accessFlags := 4, nameIndex := 5, descriptorIndex := 6, attributes := #[] }] 1057 2 #[] #[])
  fields := #[]
  methods := #[k2m0]
  instanceTypes := #[]
  staticTypes := #[]
  resolved := Array.replicate 22 none
  statics := none }

def pool3 : Array CpInfo := pool [(1, .class_ 2), (0, u "com/example/lienwright/lienwright/LevelPayment$Binary"), (0, .methodref 4 5), (0, .class_ 6), (0, .nameAndType 7 8), (0, u "java/lang/Record"), (0, u "<init>"), (0, u "()V"), (0, .fieldref 1 10), (0, .nameAndType 11 12), (0, u "mantissa"), (0, u "J"), (0, .fieldref 1 14), (0, .nameAndType 15 16), (0, u "exponent"), (0, u "I"), (8, u "(JI)V"), (6, .long 4611686018427387904), (43, u "POINT"), (2, u "ONE"), (0, u "FRACTION_STEP_BITS"), (1, u "QUOTIENT_STEP_BITS"), (1, u "WHOLE_BITS"), (7, u "exceedsOne"), (0, u "()Z"), (15, .class_ 110), (0, u "com/example/lienwright/lienwright/LevelPayment")] 20

def k3c0 : Code := { maxStack := 3, maxLocals := 4, code := prog_36_method_1_code, exceptionTable := #[], attributes := #[] }
def k3m0 : Method := { name := "<init>", desc := "(JI)V", sig := { parameters := [.long, .int], returnType := none }, accessFlags := 0, code := some k3c0 }
def k3c1 : Code := { maxStack := 4, maxLocals := 1, code := prog_36_method_4_code, exceptionTable := #[], attributes := #[] }
def k3m1 : Method := { name := "exceedsOne", desc := "()Z", sig := { parameters := [], returnType := some .boolean }, accessFlags := 0, code := some k3c1 }
/-- com/example/lienwright/lienwright/LevelPayment$Binary -/
def k3 : Class := { plain "com/example/lienwright/lienwright/LevelPayment$Binary" (some 2) with
  accessFlags := 48
  interfaces := #[]
  cf := some (fileOf pool3 1 #[.nestHost 109] #[{ accessFlags := 0, nameIndex := 7, descriptorIndex := 25, attributes := #[] }, { accessFlags := 0, nameIndex := 92, descriptorIndex := 93, attributes := #[] }] 48 4 #[] #[{ accessFlags := 18, nameIndex := 11, descriptorIndex := 12, attributes := #[] }, { accessFlags := 18, nameIndex := 15, descriptorIndex := 16, attributes := #[] }, { accessFlags := 26, nameIndex := 76, descriptorIndex := 16, attributes := #[] }, { accessFlags := 26, nameIndex := 79, descriptorIndex := 12, attributes := #[] }, { accessFlags := 26, nameIndex := 80, descriptorIndex := 16, attributes := #[] }, { accessFlags := 26, nameIndex := 82, descriptorIndex := 16, attributes := #[] }, { accessFlags := 24, nameIndex := 84, descriptorIndex := 16, attributes := #[] }])
  fields := #[{ name := "mantissa", type := .long, accessFlags := 18, slot := 0, constantValue := 0 }, { name := "exponent", type := .int, accessFlags := 18, slot := 1, constantValue := 0 }, { name := "POINT", type := .int, accessFlags := 26, slot := 0, constantValue := 0 }, { name := "ONE", type := .long, accessFlags := 26, slot := 1, constantValue := 0 }, { name := "FRACTION_STEP_BITS", type := .int, accessFlags := 26, slot := 2, constantValue := 0 }, { name := "QUOTIENT_STEP_BITS", type := .int, accessFlags := 26, slot := 3, constantValue := 0 }, { name := "WHOLE_BITS", type := .int, accessFlags := 24, slot := 4, constantValue := 0 }]
  methods := #[k3m0, k3m1]
  instanceTypes := #[.long, .int]
  staticTypes := #[.int, .long, .int, .int, .int]
  resolved := Array.replicate 131 none
  statics := none }

def pool4 : Array CpInfo := pool [(1, u "java/lang/Cloneable"), (0, .class_ 1), (0, u "java/lang/Object"), (0, .class_ 3)] 3

/-- java/lang/Cloneable -/
def k4 : Class := { plain "java/lang/Cloneable" (some 0) with
  accessFlags := 1537
  interfaces := #[]
  cf := some (fileOf pool4 2 #[] #[] 1537 4 #[] #[])
  fields := #[]
  methods := #[]
  instanceTypes := #[]
  staticTypes := #[]
  resolved := Array.replicate 8 none
  statics := none }

def pool5 : Array CpInfo := pool [(1, u "java/io/Serializable"), (0, .class_ 1), (0, u "java/lang/Object"), (0, .class_ 3)] 3

/-- java/io/Serializable -/
def k5 : Class := { plain "java/io/Serializable" (some 0) with
  accessFlags := 1537
  interfaces := #[]
  cf := some (fileOf pool5 2 #[] #[] 1537 4 #[] #[])
  fields := #[]
  methods := #[]
  instanceTypes := #[]
  staticTypes := #[]
  resolved := Array.replicate 8 none
  statics := none }

/-- the primitive byte -/
def k6 : Class := { plain "byte" none with kind := .primitive 'B', accessFlags := 0x411 }
/-- [B -/
def k7 : Class := { plain "[B" (some 0) with kind := .array 6 .byte, interfaces := #[4, 5], accessFlags := 1041 }

/-- the primitive int -/
def k8 : Class := { plain "int" none with kind := .primitive 'I', accessFlags := 0x411 }
/-- [I -/
def k9 : Class := { plain "[I" (some 0) with kind := .array 8 .int, interfaces := #[4, 5], accessFlags := 1041 }

def heap : Heap := #[]
def classes : Array Class := #[k0, k1, k2, k3, k4, k5, k6, k7, k8, k9]
def interned : List (Array UInt16 × Addr) := []
def slotsUsed : Nat := 0
def theMethod : MethodId := ⟨1, 1⟩
def args0 : Array Value := #[.long 5, .int 3, .int 0]
def aboutOver (below : List Frame) : State where
  vm := { classes := classes, interned := interned.toArray }
  heap := heap
  slotsUsed := slotsUsed
  threads := #[{ frames := .invoking theMethod args0 :: below }]
def below0 : List Frame := [.native { method := ⟨0, 0⟩, args := #[] }]
def about1 : State := aboutOver below0
def p0 : Program := .bare "" "" ""
def e0 : Env := launch0.env 0 0 0
theorem w_frames : about1.frames = Frame.invoking theMethod args0 :: below0 := rfl
set_option maxRecDepth 65536 in
theorem w_args : argsFit about1.vm theMethod args0 = true := by decide +kernel
set_option maxRecDepth 65536 in
theorem w_heap : heapFits about1 = true := by decide +kernel
set_option maxRecDepth 65536 in
theorem w_runnable : about1.curStatus? = some .runnable := by decide +kernel
set_option maxRecDepth 65536 in
theorem w_alone : about1.alone = true := by decide +kernel
set_option maxRecDepth 65536 in
theorem w_named : about1.methodNamed? x = some theMethod := by decide +kernel
set_option maxRecDepth 65536 in
theorem w_hears : about1.hears theMethod below0 = true := by decide +kernel
set_option maxRecDepth 65536 in
theorem w_ripe : about1.ripe theMethod args0 below0 = true := by decide +kernel
theorem w_running : about1.status = .running := rfl
set_option maxRecDepth 65536 in
theorem w_room : about1.hasRoom e0.platform room_1 = true :=
  launch0.hasRoom_least _ room_1 (by decide +kernel) (by decide +kernel) (by decide +kernel) (by decide +kernel) (by decide +kernel) (by decide +kernel)
theorem allAtoms_all (ts : List Jvm.Cond) (a : Array Jvm.Value) (st : Jvm.State) : (allAtoms ts).before a st = ts.all (fun c => c.before a st) := by
  induction ts with
  | nil => rfl
  | cons c t ih =>
    show (Jvm.Cond.and c (allAtoms t)).before a st = _
    rw [Jvm.Cond.before_and, ih, List.all_cons]
def words1 : List Jvm.Cond := Jvm.Cond.code x code maxLocals ret :: tables_1
/-- a 'code' word, met by the world's own term for the bytes: nothing is compared byte by byte -/
theorem code_word {y : MethodName} {bytes : ByteArray} {mx : Nat} {rt : Option FieldType} {a : Array Value} {s : State} {m : MethodId} {meth : Method} {c : Code} (h1 : s.methodNamed? y = some m) (h2 : s.vm.method? m = some meth) (h3 : meth.code = some c) (h4 : c.code = bytes)
    (h5 : (c.maxLocals == mx && c.exceptionTable.isEmpty && decide (c.maxStack ≤ mostOperands) && decide (meth.sig.returnType = rt) && !meth.locks && decide (parseMethodDescriptor y.desc = some meth.sig)) = true) : (Jvm.Cond.code y bytes mx rt).before a s = true := by
  simp only [Bool.and_eq_true, beq_iff_eq, Bool.not_eq_true', decide_eq_true_eq] at h5
  obtain ⟨⟨⟨⟨⟨g1, g2⟩, g3⟩, g4⟩, g5⟩, g6⟩ := h5
  simp [Cond.before, Cond.holds, Cond.value, h1, h2, h3, h4, g1, g2, g3, g4, g5, g6]
def isCode : Jvm.Cond → Bool
  | .code _ _ _ _ => true
  | _ => false
theorem all_split {L : List Jvm.Cond} {P : Jvm.Cond → Bool} (h1 : L.all (fun c => isCode c || P c) = true) (h2 : ∀ c ∈ L.filter isCode, P c = true) : L.all P = true := by
  refine List.all_eq_true.mpr fun c hc => ?_
  have h := List.all_eq_true.mp h1 c hc
  rcases Bool.eq_false_or_eq_true (isCode c) with hi | hi
  · exact h2 c (List.mem_filter.mpr ⟨hc, hi⟩)
  · simpa [hi] using h
set_option maxRecDepth 65536 in
theorem w_c0 : (Jvm.Cond.code x code maxLocals ret).before args0 about1 = true := code_word (m := ⟨1, 1⟩) (meth := k1m1) (c := k1c1) (by decide +kernel) rfl rfl rfl (by decide +kernel)
set_option maxRecDepth 65536 in
theorem w_c1 : (Jvm.Cond.code ({ cls := "com/example/lienwright/lienwright/LevelPayment$Binary", name := "<init>", desc := "(JI)V" } : Jvm.MethodName) prog_36_method_1_code (4 : Nat) (Option.none : Option Jvm.ClassFile.FieldType)).before args0 about1 = true := code_word (m := ⟨3, 0⟩) (meth := k3m0) (c := k3c0) (by decide +kernel) rfl rfl rfl (by decide +kernel)
set_option maxRecDepth 65536 in
theorem w_c2 : (Jvm.Cond.code ({ cls := "java/lang/Record", name := "<init>", desc := "()V" } : Jvm.MethodName) jdk_30_method_1_code (1 : Nat) (Option.none : Option Jvm.ClassFile.FieldType)).before args0 about1 = true := code_word (m := ⟨2, 0⟩) (meth := k2m0) (c := k2c0) (by decide +kernel) rfl rfl rfl (by decide +kernel)
set_option maxRecDepth 65536 in
theorem w_c3 : (Jvm.Cond.code ({ cls := "java/lang/Object", name := "<init>", desc := "()V" } : Jvm.MethodName) object_method_1_code (1 : Nat) (Option.none : Option Jvm.ClassFile.FieldType)).before args0 about1 = true := code_word (m := ⟨0, 0⟩) (meth := k0m0) (c := k0c0) (by decide +kernel) rfl rfl rfl (by decide +kernel)
set_option maxRecDepth 65536 in
theorem w_c4 : (Jvm.Cond.code ({ cls := "com/example/lienwright/lienwright/LevelPayment$Binary", name := "exceedsOne", desc := "()Z" } : Jvm.MethodName) prog_36_method_4_code (1 : Nat) (Option.some Jvm.ClassFile.FieldType.boolean)).before args0 about1 = true := code_word (m := ⟨3, 1⟩) (meth := k3m1) (c := k3c1) (by decide +kernel) rfl rfl rfl (by decide +kernel)
def codes1 : List Jvm.Cond := [Jvm.Cond.code x code maxLocals ret, Jvm.Cond.code ({ cls := "com/example/lienwright/lienwright/LevelPayment$Binary", name := "<init>", desc := "(JI)V" } : Jvm.MethodName) prog_36_method_1_code (4 : Nat) (Option.none : Option Jvm.ClassFile.FieldType), Jvm.Cond.code ({ cls := "java/lang/Record", name := "<init>", desc := "()V" } : Jvm.MethodName) jdk_30_method_1_code (1 : Nat) (Option.none : Option Jvm.ClassFile.FieldType), Jvm.Cond.code ({ cls := "java/lang/Object", name := "<init>", desc := "()V" } : Jvm.MethodName) object_method_1_code (1 : Nat) (Option.none : Option Jvm.ClassFile.FieldType), Jvm.Cond.code ({ cls := "com/example/lienwright/lienwright/LevelPayment$Binary", name := "exceedsOne", desc := "()Z" } : Jvm.MethodName) prog_36_method_4_code (1 : Nat) (Option.some Jvm.ClassFile.FieldType.boolean)]
set_option maxRecDepth 65536 in
theorem codes_eq : words1.filter isCode = codes1 := rfl
theorem w_codes : ∀ c ∈ words1.filter isCode, c.before args0 about1 = true := by
  rw [codes_eq]
  intro c hc
  simp only [codes1, List.mem_cons, List.not_mem_nil, or_false] at hc
  rcases hc with rfl | rfl | rfl | rfl | rfl
  · exact w_c0
  · exact w_c1
  · exact w_c2
  · exact w_c3
  · exact w_c4
set_option maxRecDepth 65536 in
theorem w_t1 : (words1.take 24).all (fun c => isCode c || c.before args0 about1) = true := by decide +kernel
set_option maxRecDepth 65536 in
theorem w_t2 : (words1.drop 24).all (fun c => isCode c || c.before args0 about1) = true := by decide +kernel
theorem w_tables : (allAtoms (Jvm.Cond.code x code maxLocals ret :: tables_1)).before args0 about1 = true := by
  rw [allAtoms_all]
  show words1.all (fun c => c.before args0 about1) = true
  refine all_split ?_ w_codes
  rw [← List.take_append_drop 24 words1, List.all_append, w_t1, w_t2]
  rfl
set_option maxRecDepth 65536 in
theorem w_case : (Jvm.Cond.and given_1 narrow_1).before args0 about1 = true := by decide +kernel
theorem w_applies : (headSpec (Jvm.Cond.code x code maxLocals ret :: tables_1) room_1).applies x e0.platform about1 = true :=
  (Spec.applies_iff w_frames).mpr ⟨w_running, w_runnable, w_alone, w_named, w_hears, w_ripe, w_room, w_tables⟩
theorem atStart : AtStart classFile x code maxLocals ret World_1 tables_1 room_1 Calls_1 rest_1 Pre_1 launch0 p0 e0 about1 theMethod args0 below0 :=
  ⟨lists_1, trivial, launch0.admits_env _ _ _, launch0.least_env, fairChoices_fair.cas, fairChoices_fair.clock, w_frames, w_args, w_heap, w_applies, trivial, trivial, w_case⟩
end start1
theorem witness_1 : WitnessClaimed_1 := ⟨start1.p0, start1.e0, start1.about1, start1.theMethod, start1.args0, start1.below0, start1.atStart⟩
end Jvm.Pilot.@@N@@
