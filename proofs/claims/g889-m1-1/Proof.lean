import JvmDerived
import JvmDerived.Pilot.@@N@@Statement
import JvmDerived.Pilot.@@N@@Code
set_option linter.unusedVariables false
set_option linter.unusedSimpArgs false
namespace Jvm.Pilot.@@N@@
open Jvm Jvm.ClassFile Sem Op Lib Jvm.Free Jvm.Stand Jvm.LawKit Jvm.RoadKit Bundle Jvm.Pilot.@@N@@.Jvm.D
/-! my own layer: a body's walk by a predicate on states (go: one step on, fin: a return), arrays by their elements -/
theorem own_metfree {l : Launch} {x : MethodName} {ws : List Jvm.Cond} {R : Room} {code : ByteArray} {maxL : Nat} {ret : Option FieldType} {as' : Array Value} {Z : State} {h0 : Heap} {Q : Option Value → Heap → List Loc → Prop} (hpl : plainFor x = true)
    (body : ∀ (p : Program) (e : Env) (s : State) (m : MethodId) (below : List Frame) (meth : Method) (c : Code) (s₁ : State),
      Stand p l e R s m as' below meth c s₁ [] 0 0 → p.tables.exec = Jvm.exec → c.code = code → c.maxLocals = maxL → meth.sig.returnType = ret → s.vm.findClass x.cls = some m.cls → meth.name = x.name → Z.Warmed39 s.vm → s₁.heap = h0 →
      ∀ G : State → Prop, (∀ U U', (∀ t, Steps p.tables e below U' t → Steps p.tables e below U t) → G U' → G U) →
        (∀ {T : State} {locs : List Loc} {cells slots : Nat} (v : Option Value) (g : JFrame), Stand p l e R s m as' below meth c T locs cells slots → (ret = none → v = none) →
          (∀ fs, (∀ (f : JFrame) (acts : List Action), f.method = m → f.locked = none → f.entered = [] → (doReturn e (T.setTop f) acts v).1 = T.setFrames fs) → Steps p.tables e below (T.setTop g) (T.setFrames fs)) →
          Q v T.heap locs → cells ≤ R.cells → slots ≤ R.slots → G (T.setTop g)) →
        G (s₁.setTop (entryFrame m as' maxL))) :
    MetFree l x (head1 (Jvm.Cond.code x code maxL ret :: ws) R) (fun a U => a = as' ∧ Z.Warmed39 U.vm ∧ U.heap = h0) (fun _ _ _ _ _ => True) (fun _ U o U' => ∃ v L, o = .returned v ∧ Q v U'.heap L ∧ FrameEnd U o U' L R.cells R.slots) := by
  refine MetFree.of_bodySF hpl hisR ?_
  intro p e s m args below meth c s₁ Bd hml0 hP hK
  obtain ⟨rfl, hZ, hh⟩ := hP
  have X0 : Stand p l e R s m args below meth c s₁ [] 0 0 := Stand.of_body Bd
  refine body p e s m below meth c s₁ X0 Bd.exec Bd.bytes hml0 Bd.returns (findClass_of_methodNamed Bd.named) (name_of_methodNamed Bd.named Bd.method).1 hZ (by rw [← hh, Bd.state]; rfl)
    (fun U => ∃ s₂ o, Steps p.tables e below U s₂ ∧ s₂.status = .running ∧ Ended s₂ below o ∧ ∃ v L, o = .returned v ∧ Q v s₂.heap L ∧ FrameEnd s o s₂ L R.cells R.slots) ?_ ?_
  · rintro U U' h ⟨s₂, o, h1, h2⟩
    exact ⟨s₂, o, h _ h1, h2⟩
  · intro T locs cells slots v g X hv hst hq hc hs
    obtain ⟨fs, hr, hrun, hended, hW, hsame⟩ := X.leave (v := v) (by rw [Bd.returns]; exact hv)
    exact ⟨_, _, hst fs hr, hrun, hended, _, _, rfl, hq, ⟨_, rfl⟩, hW, hsame.mono hc hs⟩
theorem own_lrem {tb : Tables} [Ours tb] {e : Env} {below : List Frame} {T target : State} {m : MethodId} {c : Code} {g : JFrame} (h : At T m c below) (hx : tb.exec = Jvm.exec) (hg : g.method = m) {x y : Int64} {rest : List Value} (hd : decode c.code g.pc = .ok (.lrem, 1)) (hs : g.stack = .long y :: .long x :: rest) (hy : y ≠ 0)
    (hr : Steps tb e below (T.setTop { g with pc := g.pc + 1, stack := .long (x % y) :: rest }) target) : Steps tb e below (T.setTop g) target :=
  XS.lrem h hx hg hd hs hy (by rw [lrem_mod]; exact hr)
def own_spec1 (c : Int32) : Int32 := if c = 32 ∨ c = 9 ∨ c = 13 ∨ c = 10 then 1 else 0
def own_spec2 (c : Int32) : Int32 := if c < 0 ∨ ¬ c < 64 then 0 else if (((4294977024 : Int64).toUInt64 >>> (c &&& 0x3f).toInt64.toUInt64).toInt64 &&& 1) = 0 then 0 else 1
theorem own_all : ∀ n : Fin 64, own_spec1 (Int32.ofNat n.1) = own_spec2 (Int32.ofNat n.1) := by decide +kernel
theorem own_same (c : Int32) : own_spec1 c = own_spec2 c := by
  have h0 : (0 : Int32).toInt = 0 := by decide
  have h64 : (64 : Int32).toInt = 64 := by decide
  by_cases h : c < 0 ∨ ¬ c < 64
  · have n1 : ¬ (c = 32 ∨ c = 9 ∨ c = 13 ∨ c = 10) := by
      rintro (rfl | rfl | rfl | rfl) <;> revert h <;> decide
    rw [own_spec1, own_spec2, if_neg n1, if_pos h]
  · simp only [not_or, Int32.lt_iff_toInt_lt, h0, h64] at h
    have e : c = Int32.ofNat c.toInt.toNat := by
      apply Int32.toInt_inj.mp
      rw [Int32.toInt_ofNat_of_lt (by omega)]
      omega
    have := own_all ⟨c.toInt.toNat, by omega⟩
    rw [← e] at this
    exact this
theorem own_ef1 (m : MethodId) (p0 : Int32) : entryFrame m #[(.int p0)] 1 = mkF m 0 #[.val (.int p0)] [] := by first | (simp [entryFrame, mkF, argsToLocals, Value.category]; done) | rfl
theorem own_pn1 : plainName "com/example/relata/relata/codec/MarcXml" = true := by first | (simp [plainName, overriddenIn]; done) | decide +kernel
theorem d1_0 : decode prog_26_method_2_code 0 = .ok (.iload_n 0, 1) := by decide +kernel
theorem d1_1 : decode prog_26_method_2_code 1 = .ok (.bipush 32, 2) := by decide +kernel
theorem d1_3 : decode prog_26_method_2_code 3 = .ok (.if_icmp .eq 21, 3) := by decide +kernel
theorem d1_24 : decode prog_26_method_2_code 24 = .ok (.iconst 1, 1) := by decide +kernel
theorem d1_25 : decode prog_26_method_2_code 25 = .ok (.goto 4, 3) := by decide +kernel
theorem d1_29 : decode prog_26_method_2_code 29 = .ok (.ireturn, 1) := by decide +kernel
theorem d1_6 : decode prog_26_method_2_code 6 = .ok (.iload_n 0, 1) := by decide +kernel
theorem d1_7 : decode prog_26_method_2_code 7 = .ok (.bipush 9, 2) := by decide +kernel
theorem d1_9 : decode prog_26_method_2_code 9 = .ok (.if_icmp .eq 15, 3) := by decide +kernel
theorem d1_12 : decode prog_26_method_2_code 12 = .ok (.iload_n 0, 1) := by decide +kernel
theorem d1_13 : decode prog_26_method_2_code 13 = .ok (.bipush 13, 2) := by decide +kernel
theorem d1_15 : decode prog_26_method_2_code 15 = .ok (.if_icmp .eq 9, 3) := by decide +kernel
theorem d1_18 : decode prog_26_method_2_code 18 = .ok (.iload_n 0, 1) := by decide +kernel
theorem d1_19 : decode prog_26_method_2_code 19 = .ok (.bipush 10, 2) := by decide +kernel
theorem d1_21 : decode prog_26_method_2_code 21 = .ok (.if_icmp .ne 7, 3) := by decide +kernel
theorem d1_28 : decode prog_26_method_2_code 28 = .ok (.iconst 0, 1) := by decide +kernel
def own_Q1 (Z : State) (p0 : Int32) (h0 : Heap) (n0 : Nat) (v : Option Value) (h : Heap) (L : List Loc) : Prop := v = some (.int (own_spec1 p0)) ∧ Fr n0 L ∧ h = h0
set_option maxRecDepth 65536 in
set_option maxHeartbeats 40000000 in
theorem rm1 (l : Launch) (Z : State) (a0 : Array Value) (hw : ∀ d ∈ tables_1, d.before a0 Z = true) (ws : List Jvm.Cond) (p0 : Int32) (h0 : Heap) (n0 : Nat) (Z0 : n0 ≤ h0.size) :
    MetFree l (⟨"com/example/relata/relata/codec/MarcXml", "isWhiteSpace", "(I)Z"⟩ : MethodName) (head1 (Jvm.Cond.code (⟨"com/example/relata/relata/codec/MarcXml", "isWhiteSpace", "(I)Z"⟩ : MethodName) prog_26_method_2_code 1 (some .boolean) :: ws) ({ frames := 0, cells := 0, slots := 0, locals := 0 } : Room)) (fun a U => a = #[(.int p0)] ∧ Z.Warmed39 U.vm ∧ U.heap = h0) (fun _ _ _ _ _ => True) (fun _ U o U' => ∃ v L, o = .returned v ∧ own_Q1 Z p0 h0 n0 v U'.heap L ∧ FrameEnd U o U' L ({ frames := 0, cells := 0, slots := 0, locals := 0 } : Room).cells ({ frames := 0, cells := 0, slots := 0, locals := 0 } : Room).slots) := by
  refine own_metfree (Q := own_Q1 Z p0 h0 n0) (plainFor_of_name own_pn1) ?_
  intro p e s m below meth c s₁ X0 hx hby hml hret hown hnm hZ e0 G go fin
  have N0 := Fr.nil n0
  refine go _ (s₁.setTop (mkF m 0 #[.val (.int p0)] [])) (fun t k => castTop (own_ef1 m p0) k) ?_
  refine go _ (s₁.setTop (mkF m 1 #[.val (.int p0)] [(.int p0)])) (fun t k => XS.iloadN X0.here hx rfl (hb hby d1_0) rfl k) ?_
  refine go _ (s₁.setTop (mkF m 3 #[.val (.int p0)] [(.int (32 : Int32)), (.int p0)])) (fun t k => XS.bipush X0.here hx rfl (hb hby d1_1) k) ?_
  rcases Decidable.em (p0 = (32 : Int32)) with hc3 | hc3
  · refine go _ (s₁.setTop (mkF m 24 #[.val (.int p0)] [])) (fun t k => XS.icmpYes X0.here hx rfl (pc0 := 3) (pc' := 24) rfl (hb hby d1_3) rfl (teq hc3).1 (by decide) (by decide) k) ?_
    refine go _ (s₁.setTop (mkF m 25 #[.val (.int p0)] [(.int (1 : Int32))])) (fun t k => XS.iconst X0.here hx rfl (hb hby d1_24) k) ?_
    refine go _ (s₁.setTop (mkF m 29 #[.val (.int p0)] [(.int (1 : Int32))])) (fun t k => XS.goto X0.here hx rfl (pc0 := 25) (pc' := 29) rfl (hb hby d1_25) (by decide) (by decide) k) ?_
    refine fin (some (.int (1 : Int32))) (mkF m 29 #[.val (.int p0)] [(.int (1 : Int32))]) X0 (fun h => by cases h) (fun fs hr => retOut X0 hx (t := .boolean) hret rfl (Or.inl ⟨rfl, by simp, _, rfl⟩) (hb hby d1_29) hr) ?_ (by decide) (by decide)
    try rw [e0]
    exact ⟨by simp [own_spec1, hc3], N0, rfl⟩
  · refine go _ (s₁.setTop (mkF m 6 #[.val (.int p0)] [])) (fun t k => XS.icmpNo X0.here hx rfl (hb hby d1_3) rfl (feq hc3).1 k) ?_
    refine go _ (s₁.setTop (mkF m 7 #[.val (.int p0)] [(.int p0)])) (fun t k => XS.iloadN X0.here hx rfl (hb hby d1_6) rfl k) ?_
    refine go _ (s₁.setTop (mkF m 9 #[.val (.int p0)] [(.int (9 : Int32)), (.int p0)])) (fun t k => XS.bipush X0.here hx rfl (hb hby d1_7) k) ?_
    rcases Decidable.em (p0 = (9 : Int32)) with hc9 | hc9
    · refine go _ (s₁.setTop (mkF m 24 #[.val (.int p0)] [])) (fun t k => XS.icmpYes X0.here hx rfl (pc0 := 9) (pc' := 24) rfl (hb hby d1_9) rfl (teq hc9).1 (by decide) (by decide) k) ?_
      refine go _ (s₁.setTop (mkF m 25 #[.val (.int p0)] [(.int (1 : Int32))])) (fun t k => XS.iconst X0.here hx rfl (hb hby d1_24) k) ?_
      refine go _ (s₁.setTop (mkF m 29 #[.val (.int p0)] [(.int (1 : Int32))])) (fun t k => XS.goto X0.here hx rfl (pc0 := 25) (pc' := 29) rfl (hb hby d1_25) (by decide) (by decide) k) ?_
      refine fin (some (.int (1 : Int32))) (mkF m 29 #[.val (.int p0)] [(.int (1 : Int32))]) X0 (fun h => by cases h) (fun fs hr => retOut X0 hx (t := .boolean) hret rfl (Or.inl ⟨rfl, by simp, _, rfl⟩) (hb hby d1_29) hr) ?_ (by decide) (by decide)
      try rw [e0]
      exact ⟨by simp [own_spec1, hc3, hc9], N0, rfl⟩
    · refine go _ (s₁.setTop (mkF m 12 #[.val (.int p0)] [])) (fun t k => XS.icmpNo X0.here hx rfl (hb hby d1_9) rfl (feq hc9).1 k) ?_
      refine go _ (s₁.setTop (mkF m 13 #[.val (.int p0)] [(.int p0)])) (fun t k => XS.iloadN X0.here hx rfl (hb hby d1_12) rfl k) ?_
      refine go _ (s₁.setTop (mkF m 15 #[.val (.int p0)] [(.int (13 : Int32)), (.int p0)])) (fun t k => XS.bipush X0.here hx rfl (hb hby d1_13) k) ?_
      rcases Decidable.em (p0 = (13 : Int32)) with hc15 | hc15
      · refine go _ (s₁.setTop (mkF m 24 #[.val (.int p0)] [])) (fun t k => XS.icmpYes X0.here hx rfl (pc0 := 15) (pc' := 24) rfl (hb hby d1_15) rfl (teq hc15).1 (by decide) (by decide) k) ?_
        refine go _ (s₁.setTop (mkF m 25 #[.val (.int p0)] [(.int (1 : Int32))])) (fun t k => XS.iconst X0.here hx rfl (hb hby d1_24) k) ?_
        refine go _ (s₁.setTop (mkF m 29 #[.val (.int p0)] [(.int (1 : Int32))])) (fun t k => XS.goto X0.here hx rfl (pc0 := 25) (pc' := 29) rfl (hb hby d1_25) (by decide) (by decide) k) ?_
        refine fin (some (.int (1 : Int32))) (mkF m 29 #[.val (.int p0)] [(.int (1 : Int32))]) X0 (fun h => by cases h) (fun fs hr => retOut X0 hx (t := .boolean) hret rfl (Or.inl ⟨rfl, by simp, _, rfl⟩) (hb hby d1_29) hr) ?_ (by decide) (by decide)
        try rw [e0]
        exact ⟨by simp [own_spec1, hc3, hc9, hc15], N0, rfl⟩
      · refine go _ (s₁.setTop (mkF m 18 #[.val (.int p0)] [])) (fun t k => XS.icmpNo X0.here hx rfl (hb hby d1_15) rfl (feq hc15).1 k) ?_
        refine go _ (s₁.setTop (mkF m 19 #[.val (.int p0)] [(.int p0)])) (fun t k => XS.iloadN X0.here hx rfl (hb hby d1_18) rfl k) ?_
        refine go _ (s₁.setTop (mkF m 21 #[.val (.int p0)] [(.int (10 : Int32)), (.int p0)])) (fun t k => XS.bipush X0.here hx rfl (hb hby d1_19) k) ?_
        rcases Decidable.em (p0 = (10 : Int32)) with hc21 | hc21
        · refine go _ (s₁.setTop (mkF m 24 #[.val (.int p0)] [])) (fun t k => XS.icmpNo X0.here hx rfl (hb hby d1_21) rfl (teq hc21).2 k) ?_
          refine go _ (s₁.setTop (mkF m 25 #[.val (.int p0)] [(.int (1 : Int32))])) (fun t k => XS.iconst X0.here hx rfl (hb hby d1_24) k) ?_
          refine go _ (s₁.setTop (mkF m 29 #[.val (.int p0)] [(.int (1 : Int32))])) (fun t k => XS.goto X0.here hx rfl (pc0 := 25) (pc' := 29) rfl (hb hby d1_25) (by decide) (by decide) k) ?_
          refine fin (some (.int (1 : Int32))) (mkF m 29 #[.val (.int p0)] [(.int (1 : Int32))]) X0 (fun h => by cases h) (fun fs hr => retOut X0 hx (t := .boolean) hret rfl (Or.inl ⟨rfl, by simp, _, rfl⟩) (hb hby d1_29) hr) ?_ (by decide) (by decide)
          try rw [e0]
          exact ⟨by simp [own_spec1, hc3, hc9, hc15, hc21], N0, rfl⟩
        · refine go _ (s₁.setTop (mkF m 28 #[.val (.int p0)] [])) (fun t k => XS.icmpYes X0.here hx rfl (pc0 := 21) (pc' := 28) rfl (hb hby d1_21) rfl (feq hc21).2 (by decide) (by decide) k) ?_
          refine go _ (s₁.setTop (mkF m 29 #[.val (.int p0)] [(.int (0 : Int32))])) (fun t k => XS.iconst X0.here hx rfl (hb hby d1_28) k) ?_
          refine fin (some (.int (0 : Int32))) (mkF m 29 #[.val (.int p0)] [(.int (0 : Int32))]) X0 (fun h => by cases h) (fun fs hr => retOut X0 hx (t := .boolean) hret rfl (Or.inl ⟨rfl, by simp, _, rfl⟩) (hb hby d1_29) hr) ?_ (by decide) (by decide)
          try rw [e0]
          exact ⟨by simp [own_spec1, hc3, hc9, hc15, hc21], N0, rfl⟩
theorem own_ef2 (m : MethodId) (p0 : Int32) : entryFrame m #[(.int p0)] 1 = mkF m 0 #[.val (.int p0)] [] := by first | (simp [entryFrame, mkF, argsToLocals, Value.category]; done) | rfl
theorem own_pn2 : plainName "com/example/relata/relata/codec/MarcXmlIsWhiteSpacePinLaw" = true := by first | (simp [plainName, overriddenIn]; done) | decide +kernel
theorem d2_0 : decode method_2_code 0 = .ok (.iload_n 0, 1) := by decide +kernel
theorem d2_1 : decode method_2_code 1 = .ok (.ifCond .lt 9, 3) := by decide +kernel
theorem d2_10 : decode method_2_code 10 = .ok (.iconst 0, 1) := by decide +kernel
theorem d2_11 : decode method_2_code 11 = .ok (.ireturn, 1) := by decide +kernel
theorem d2_4 : decode method_2_code 4 = .ok (.iload_n 0, 1) := by decide +kernel
theorem d2_5 : decode method_2_code 5 = .ok (.bipush 64, 2) := by decide +kernel
theorem d2_7 : decode method_2_code 7 = .ok (.if_icmp .lt 5, 3) := by decide +kernel
theorem d2_12 : decode method_2_code 12 = .ok (.ldc2_w 7, 3) := by decide +kernel
theorem d2_15 : decode method_2_code 15 = .ok (.iload_n 0, 1) := by decide +kernel
theorem d2_16 : decode method_2_code 16 = .ok (.lushr, 1) := by decide +kernel
theorem d2_17 : decode method_2_code 17 = .ok (.lconst 1, 1) := by decide +kernel
theorem d2_18 : decode method_2_code 18 = .ok (.land, 1) := by decide +kernel
theorem d2_19 : decode method_2_code 19 = .ok (.lconst 0, 1) := by decide +kernel
theorem d2_20 : decode method_2_code 20 = .ok (.lcmp, 1) := by decide +kernel
theorem d2_21 : decode method_2_code 21 = .ok (.ifCond .eq 7, 3) := by decide +kernel
theorem d2_28 : decode method_2_code 28 = .ok (.iconst 0, 1) := by decide +kernel
theorem d2_29 : decode method_2_code 29 = .ok (.ireturn, 1) := by decide +kernel
theorem d2_24 : decode method_2_code 24 = .ok (.iconst 1, 1) := by decide +kernel
theorem d2_25 : decode method_2_code 25 = .ok (.goto 4, 3) := by decide +kernel
def own_Q2 (Z : State) (p0 : Int32) (h0 : Heap) (n0 : Nat) (v : Option Value) (h : Heap) (L : List Loc) : Prop := v = some (.int (own_spec2 p0)) ∧ Fr n0 L ∧ h = h0
set_option maxRecDepth 65536 in
set_option maxHeartbeats 40000000 in
theorem rm2 (l : Launch) (Z : State) (a0 : Array Value) (hw : ∀ d ∈ tables_1, d.before a0 Z = true) (ws : List Jvm.Cond) (p0 : Int32) (h0 : Heap) (n0 : Nat) (Z0 : n0 ≤ h0.size) :
    MetFree l (⟨"com/example/relata/relata/codec/MarcXmlIsWhiteSpacePinLaw", "expected", "(I)Z"⟩ : MethodName) (head1 (Jvm.Cond.code (⟨"com/example/relata/relata/codec/MarcXmlIsWhiteSpacePinLaw", "expected", "(I)Z"⟩ : MethodName) method_2_code 1 (some .boolean) :: ws) ({ frames := 0, cells := 0, slots := 0, locals := 0 } : Room)) (fun a U => a = #[(.int p0)] ∧ Z.Warmed39 U.vm ∧ U.heap = h0) (fun _ _ _ _ _ => True) (fun _ U o U' => ∃ v L, o = .returned v ∧ own_Q2 Z p0 h0 n0 v U'.heap L ∧ FrameEnd U o U' L ({ frames := 0, cells := 0, slots := 0, locals := 0 } : Room).cells ({ frames := 0, cells := 0, slots := 0, locals := 0 } : Room).slots) := by
  refine own_metfree (Q := own_Q2 Z p0 h0 n0) (plainFor_of_name own_pn2) ?_
  intro p e s m below meth c s₁ X0 hx hby hml hret hown hnm hZ e0 G go fin
  have N0 := Fr.nil n0
  refine go _ (s₁.setTop (mkF m 0 #[.val (.int p0)] [])) (fun t k => castTop (own_ef2 m p0) k) ?_
  refine go _ (s₁.setTop (mkF m 1 #[.val (.int p0)] [(.int p0)])) (fun t k => XS.iloadN X0.here hx rfl (hb hby d2_0) rfl k) ?_
  rcases Decidable.em (p0 < (0 : Int32)) with hc1 | hc1
  · refine go _ (s₁.setTop (mkF m 10 #[.val (.int p0)] [])) (fun t k => XS.ifYes X0.here hx rfl (pc0 := 1) (pc' := 10) rfl (hb hby d2_1) rfl ((if0 _ _).trans (tlt hc1).1) (by decide) (by decide) k) ?_
    refine go _ (s₁.setTop (mkF m 11 #[.val (.int p0)] [(.int (0 : Int32))])) (fun t k => XS.iconst X0.here hx rfl (hb hby d2_10) k) ?_
    refine fin (some (.int (0 : Int32))) (mkF m 11 #[.val (.int p0)] [(.int (0 : Int32))]) X0 (fun h => by cases h) (fun fs hr => retOut X0 hx (t := .boolean) hret rfl (Or.inl ⟨rfl, by simp, _, rfl⟩) (hb hby d2_11) hr) ?_ (by decide) (by decide)
    try rw [e0]
    exact ⟨by rw [own_spec2, if_pos (Or.inl hc1)], N0, rfl⟩
  · refine go _ (s₁.setTop (mkF m 4 #[.val (.int p0)] [])) (fun t k => XS.ifNo X0.here hx rfl (hb hby d2_1) rfl ((if0 _ _).trans (flt hc1).1) k) ?_
    refine go _ (s₁.setTop (mkF m 5 #[.val (.int p0)] [(.int p0)])) (fun t k => XS.iloadN X0.here hx rfl (hb hby d2_4) rfl k) ?_
    refine go _ (s₁.setTop (mkF m 7 #[.val (.int p0)] [(.int (64 : Int32)), (.int p0)])) (fun t k => XS.bipush X0.here hx rfl (hb hby d2_5) k) ?_
    rcases Decidable.em (p0 < (64 : Int32)) with hc7 | hc7
    · refine go _ (s₁.setTop (mkF m 12 #[.val (.int p0)] [])) (fun t k => XS.icmpYes X0.here hx rfl (pc0 := 7) (pc' := 12) rfl (hb hby d2_7) rfl (tlt hc7).1 (by decide) (by decide) k) ?_
      refine go _ (s₁.setTop (mkF m 15 #[.val (.int p0)] [(.long (4294977024 : Int64))])) (fun t k => X0.ldc2Long hx hown (mvT hZ (hw _ (List.mem_of_getElem? (i := 8) rfl))) (g := (mkF m 12 #[.val (.int p0)] [])) rfl (hb hby d2_12) _ k) ?_
      refine go _ (s₁.setTop (mkF m 16 #[.val (.int p0)] [(.int p0), (.long (4294977024 : Int64))])) (fun t k => XS.iloadN X0.here hx rfl (hb hby d2_15) rfl k) ?_
      refine go _ (s₁.setTop (mkF m 17 #[.val (.int p0)] [(.long (((4294977024 : Int64).toUInt64 >>> (p0 &&& 0x3f).toInt64.toUInt64).toInt64))])) (fun t k => XS.lushr X0.here hx rfl (hb hby d2_16) rfl k) ?_
      refine go _ (s₁.setTop (mkF m 18 #[.val (.int p0)] [(.long (1 : Int64)), (.long (((4294977024 : Int64).toUInt64 >>> (p0 &&& 0x3f).toInt64.toUInt64).toInt64))])) (fun t k => XS.lconst X0.here hx rfl (hb hby d2_17) k) ?_
      refine go _ (s₁.setTop (mkF m 19 #[.val (.int p0)] [(.long ((((4294977024 : Int64).toUInt64 >>> (p0 &&& 0x3f).toInt64.toUInt64).toInt64) &&& (1 : Int64)))])) (fun t k => XS.land X0.here hx rfl (hb hby d2_18) rfl k) ?_
      refine go _ (s₁.setTop (mkF m 20 #[.val (.int p0)] [(.long (0 : Int64)), (.long ((((4294977024 : Int64).toUInt64 >>> (p0 &&& 0x3f).toInt64.toUInt64).toInt64) &&& (1 : Int64)))])) (fun t k => XS.lconst X0.here hx rfl (hb hby d2_19) k) ?_
      refine go _ (s₁.setTop (mkF m 21 #[.val (.int p0)] [(.int (lcmpW ((((4294977024 : Int64).toUInt64 >>> (p0 &&& 0x3f).toInt64.toUInt64).toInt64) &&& (1 : Int64)) (0 : Int64)))])) (fun t k => XS.lcmp X0.here hx rfl (hb hby d2_20) rfl k) ?_
      rcases Decidable.em (((((4294977024 : Int64).toUInt64 >>> (p0 &&& 0x3f).toInt64.toUInt64).toInt64) &&& (1 : Int64)) = (0 : Int64)) with hc21 | hc21
      · refine go _ (s₁.setTop (mkF m 28 #[.val (.int p0)] [])) (fun t k => XS.ifYes X0.here hx rfl (pc0 := 21) (pc' := 28) rfl (hb hby d2_21) rfl ((if0 _ _).trans (teq ((lw_eq _ _).mpr hc21)).1) (by decide) (by decide) k) ?_
        refine go _ (s₁.setTop (mkF m 29 #[.val (.int p0)] [(.int (0 : Int32))])) (fun t k => XS.iconst X0.here hx rfl (hb hby d2_28) k) ?_
        refine fin (some (.int (0 : Int32))) (mkF m 29 #[.val (.int p0)] [(.int (0 : Int32))]) X0 (fun h => by cases h) (fun fs hr => retOut X0 hx (t := .boolean) hret rfl (Or.inl ⟨rfl, by simp, _, rfl⟩) (hb hby d2_29) hr) ?_ (by decide) (by decide)
        try rw [e0]
        exact ⟨by rw [own_spec2, if_neg (fun q => q.elim hc1 (fun z => z hc7)), if_pos hc21], N0, rfl⟩
      · refine go _ (s₁.setTop (mkF m 24 #[.val (.int p0)] [])) (fun t k => XS.ifNo X0.here hx rfl (hb hby d2_21) rfl ((if0 _ _).trans (feq (fun q => hc21 ((lw_eq _ _).mp q))).1) k) ?_
        refine go _ (s₁.setTop (mkF m 25 #[.val (.int p0)] [(.int (1 : Int32))])) (fun t k => XS.iconst X0.here hx rfl (hb hby d2_24) k) ?_
        refine go _ (s₁.setTop (mkF m 29 #[.val (.int p0)] [(.int (1 : Int32))])) (fun t k => XS.goto X0.here hx rfl (pc0 := 25) (pc' := 29) rfl (hb hby d2_25) (by decide) (by decide) k) ?_
        refine fin (some (.int (1 : Int32))) (mkF m 29 #[.val (.int p0)] [(.int (1 : Int32))]) X0 (fun h => by cases h) (fun fs hr => retOut X0 hx (t := .boolean) hret rfl (Or.inl ⟨rfl, by simp, _, rfl⟩) (hb hby d2_29) hr) ?_ (by decide) (by decide)
        try rw [e0]
        exact ⟨by rw [own_spec2, if_neg (fun q => q.elim hc1 (fun z => z hc7)), if_neg hc21], N0, rfl⟩
    · refine go _ (s₁.setTop (mkF m 10 #[.val (.int p0)] [])) (fun t k => XS.icmpNo X0.here hx rfl (hb hby d2_7) rfl (flt hc7).1 k) ?_
      refine go _ (s₁.setTop (mkF m 11 #[.val (.int p0)] [(.int (0 : Int32))])) (fun t k => XS.iconst X0.here hx rfl (hb hby d2_10) k) ?_
      refine fin (some (.int (0 : Int32))) (mkF m 11 #[.val (.int p0)] [(.int (0 : Int32))]) X0 (fun h => by cases h) (fun fs hr => retOut X0 hx (t := .boolean) hret rfl (Or.inl ⟨rfl, by simp, _, rfl⟩) (hb hby d2_11) hr) ?_ (by decide) (by decide)
      try rw [e0]
      exact ⟨by rw [own_spec2, if_pos (Or.inr hc7)], N0, rfl⟩
theorem own_ef0 (m : MethodId) (p0 : Int32) (p1 : Int32) : entryFrame m #[(.int p0), (.int p1)] maxLocals = mkF m 0 #[.val (.int p0), .val (.int p1), .unset, .unset] [] := by first | (simp [entryFrame, mkF, argsToLocals, Value.category, maxLocals]; done) | rfl
theorem own_pn0 : plainName "com/example/relata/relata/codec/MarcXmlIsWhiteSpacePinLaw" = true := by first | (simp [plainName, overriddenIn]; done) | decide +kernel
theorem own_pd_0 : parseMethodDescriptor "(I)Z" = some ⟨[.int], some .boolean⟩ := by decide +kernel
def own_Q0 (Z : State) (p0 : Int32) (p1 : Int32) (h0 : Heap) (n0 : Nat) (v : Option Value) (h : Heap) (L : List Loc) : Prop := v = some (.int 1) ∧ Fr n0 L
set_option maxRecDepth 65536 in
set_option maxHeartbeats 40000000 in
theorem rm0 (l : Launch) (Z : State) (a0 : Array Value) (hw : ∀ d ∈ tables_1, d.before a0 Z = true) (ws : List Jvm.Cond) (p0 : Int32) (p1 : Int32) (h0 : Heap) (n0 : Nat) (Z0 : n0 ≤ h0.size) :
    MetFree l x (head1 (Jvm.Cond.code x code maxLocals ret :: ws) room_1) (fun a U => a = #[(.int p0), (.int p1)] ∧ Z.Warmed39 U.vm ∧ U.heap = h0) (fun _ _ _ _ _ => True) (fun _ U o U' => ∃ v L, o = .returned v ∧ own_Q0 Z p0 p1 h0 n0 v U'.heap L ∧ FrameEnd U o U' L room_1.cells room_1.slots) := by
  refine own_metfree (Q := own_Q0 Z p0 p1 h0 n0) (plainFor_of_name own_pn0) ?_
  intro p e s m below meth c s₁ X0 hx hby hml hret hown hnm hZ e0 G go fin
  have N0 := Fr.nil n0
  refine go _ (s₁.setTop (mkF m 0 #[.val (.int p0), .val (.int p1), .unset, .unset] [])) (fun t k => castTop (own_ef0 m p0 p1) k) ?_
  refine go _ (s₁.setTop (mkF m 1 #[.val (.int p0), .val (.int p1), .unset, .unset] [(.int p1)])) (fun t k => XS.iloadN X0.here hx rfl (hb hby at_0) rfl k) ?_
  refine go _ (s₁.setTop (mkF m 3 #[.val (.int p0), .val (.int p1), .unset, .unset] [(.int (7 : Int32)), (.int p1)])) (fun t k => XS.bipush X0.here hx rfl (hb hby at_1) k) ?_
  refine go _ (s₁.setTop (mkF m 4 #[.val (.int p0), .val (.int p1), .unset, .unset] [(.int (p1 &&& (7 : Int32)))])) (fun t k => XS.iand X0.here hx rfl (hb hby at_3) rfl k) ?_
  refine go _ (s₁.setTop (mkF m 5 #[.val (.int p0), .val (.int p1), .val (.int (p1 &&& (7 : Int32))), .unset] [])) (fun t k => XS.istoreN X0.here hx rfl (hb hby at_4) rfl (l' := #[.val (.int p0), .val (.int p1), .val (.int (p1 &&& (7 : Int32))), .unset]) rfl k) ?_
  have j76 : ∀ (vc : Int32), G (s₁.setTop (mkF m 76 #[.val (.int p0), .val (.int p1), .val (.int (p1 &&& (7 : Int32))), .val (.int vc)] [])) := by
    intro vc
    refine go _ (s₁.setTop (mkF m 77 #[.val (.int p0), .val (.int p1), .val (.int (p1 &&& (7 : Int32))), .val (.int vc)] [(.int vc)])) (fun t k => XS.iloadN X0.here hx rfl (hb hby at_76) rfl k) ?_
    obtain ⟨_, _, ⟨T1, L1, k1, n1⟩, -, X1, ⟨Lc1, hQ1, l1, y1, z1⟩, st1⟩ := Jvm.LawKit.callS X0 hx (y := (⟨"com/example/relata/relata/codec/MarcXml", "isWhiteSpace", "(I)Z"⟩ : MethodName)) hown (mvT hZ (hw _ (List.mem_of_getElem? (i := 0) rfl))) (mvT hZ (hw _ (List.mem_of_getElem? (i := 1) rfl))) (mvT hZ (hw _ (List.mem_of_getElem? (i := 2) rfl))) (mvT hZ (hw _ (List.mem_of_getElem? (i := 3) rfl))) (by decide) (backOf (W := 0) (rm1 l Z a0 hw [] vc h0 n0 Z0) hZ (hw _ (List.mem_of_getElem? (i := 3) rfl)) (hw _ (List.mem_of_getElem? (i := 2) rfl)) (by decide) (by decide)) (g := (mkF m 77 #[.val (.int p0), .val (.int p1), .val (.int (p1 &&& (7 : Int32))), .val (.int vc)] [(.int vc)])) rfl (by rw [hml]; rfl) (argsL := [(.int vc)]) (rest := []) (lenOf own_pd_0 rfl) rfl (by show 2 * 0 + _ ≤ _; exact Nat.le_of_eq rfl) (hb hby at_77) (fun _ _ => ⟨rfl, e0, (by decide : 0 + 0 ≤ _), (by decide : 0 + 0 ≤ _)⟩)
    dsimp only [Pt.U, Pt.locs, Pt.cells, Pt.slots] at X1 l1 y1 z1 st1 hQ1
    subst l1 y1 z1
    obtain ⟨rfl, Nq1, eq1⟩ := hQ1
    have N1 := Fr.app N0 Nq1
    refine go _ (T1.setTop (mkF m 80 #[.val (.int p0), .val (.int p1), .val (.int (p1 &&& (7 : Int32))), .val (.int vc)] [(.int (own_spec1 vc))])) st1 ?_
    refine go _ (T1.setTop (mkF m 81 #[.val (.int p0), .val (.int p1), .val (.int (p1 &&& (7 : Int32))), .val (.int vc)] [(.int vc), (.int (own_spec1 vc))])) (fun t k => XS.iloadN X1.here hx rfl (hb hby at_80) rfl k) ?_
    obtain ⟨_, _, ⟨T2, L2, k2, n2⟩, -, X2, ⟨Lc2, hQ2, l2, y2, z2⟩, st2⟩ := Jvm.LawKit.callS X1 hx (y := (⟨"com/example/relata/relata/codec/MarcXmlIsWhiteSpacePinLaw", "expected", "(I)Z"⟩ : MethodName)) hown (mvT hZ (hw _ (List.mem_of_getElem? (i := 4) rfl))) (mvT hZ (hw _ (List.mem_of_getElem? (i := 5) rfl))) (mvT hZ (hw _ (List.mem_of_getElem? (i := 6) rfl))) (mvT hZ (hw _ (List.mem_of_getElem? (i := 7) rfl))) (by decide) (backOf (W := 1) (rm2 l Z a0 hw [] vc h0 n0 Z0) hZ (hw _ (List.mem_of_getElem? (i := 7) rfl)) (hw _ (List.mem_of_getElem? (i := 6) rfl)) (by decide) (by decide)) (g := (mkF m 81 #[.val (.int p0), .val (.int p1), .val (.int (p1 &&& (7 : Int32))), .val (.int vc)] [(.int vc), (.int (own_spec1 vc))])) rfl (by rw [hml]; rfl) (argsL := [(.int vc)]) (rest := [(.int (own_spec1 vc))]) (lenOf own_pd_0 rfl) rfl (by show 2 * 0 + _ ≤ _; exact Nat.le_of_eq rfl) (hb hby at_81) (fun _ _ => ⟨rfl, eq1, (by decide : 0 + 0 ≤ _), (by decide : 0 + 0 ≤ _)⟩)
    dsimp only [Pt.U, Pt.locs, Pt.cells, Pt.slots] at X2 l2 y2 z2 st2 hQ2
    subst l2 y2 z2
    obtain ⟨rfl, Nq2, eq2⟩ := hQ2
    have N2 := Fr.app N1 Nq2
    refine go _ (T2.setTop (mkF m 84 #[.val (.int p0), .val (.int p1), .val (.int (p1 &&& (7 : Int32))), .val (.int vc)] [(.int (own_spec2 vc)), (.int (own_spec1 vc))])) st2 ?_
    have hc84 : (own_spec1 vc) = (own_spec2 vc) := by exact own_same _
    refine go _ (T2.setTop (mkF m 87 #[.val (.int p0), .val (.int p1), .val (.int (p1 &&& (7 : Int32))), .val (.int vc)] [])) (fun t k => XS.icmpNo X2.here hx rfl (hb hby at_84) rfl (teq hc84).2 k) ?_
    refine go _ (T2.setTop (mkF m 88 #[.val (.int p0), .val (.int p1), .val (.int (p1 &&& (7 : Int32))), .val (.int vc)] [(.int (1 : Int32))])) (fun t k => XS.iconst X2.here hx rfl (hb hby at_87) k) ?_
    refine go _ (T2.setTop (mkF m 92 #[.val (.int p0), .val (.int p1), .val (.int (p1 &&& (7 : Int32))), .val (.int vc)] [(.int (1 : Int32))])) (fun t k => XS.goto X2.here hx rfl (pc0 := 88) (pc' := 92) rfl (hb hby at_88) (by decide) (by decide) k) ?_
    refine fin (some (.int (1 : Int32))) (mkF m 92 #[.val (.int p0), .val (.int p1), .val (.int (p1 &&& (7 : Int32))), .val (.int vc)] [(.int (1 : Int32))]) X2 (fun h => by cases h) (fun fs hr => retOut X2 hx (t := .boolean) hret rfl (Or.inl ⟨rfl, by simp, _, rfl⟩) (hb hby at_92) hr) ?_ (by decide) (by decide)
    exact ⟨rfl, N2⟩
  refine go _ (s₁.setTop (mkF m 6 #[.val (.int p0), .val (.int p1), .val (.int (p1 &&& (7 : Int32))), .unset] [(.int (p1 &&& (7 : Int32)))])) (fun t k => XS.iloadN X0.here hx rfl (hb hby at_5) rfl k) ?_
  rcases Decidable.em ((p1 &&& (7 : Int32)) = (0 : Int32)) with hc6 | hc6
  · refine go _ (s₁.setTop (mkF m 9 #[.val (.int p0), .val (.int p1), .val (.int (p1 &&& (7 : Int32))), .unset] [])) (fun t k => XS.ifNo X0.here hx rfl (hb hby at_6) rfl ((if0 _ _).trans (teq hc6).2) k) ?_
    refine go _ (s₁.setTop (mkF m 11 #[.val (.int p0), .val (.int p1), .val (.int (p1 &&& (7 : Int32))), .unset] [(.int (32 : Int32))])) (fun t k => XS.bipush X0.here hx rfl (hb hby at_9) k) ?_
    refine go _ (s₁.setTop (mkF m 12 #[.val (.int p0), .val (.int p1), .val (.int (p1 &&& (7 : Int32))), .val (.int (32 : Int32))] [])) (fun t k => XS.istoreN X0.here hx rfl (hb hby at_11) rfl (l' := #[.val (.int p0), .val (.int p1), .val (.int (p1 &&& (7 : Int32))), .val (.int (32 : Int32))]) rfl k) ?_
    refine go _ (s₁.setTop (mkF m 76 #[.val (.int p0), .val (.int p1), .val (.int (p1 &&& (7 : Int32))), .val (.int (32 : Int32))] [])) (fun t k => XS.goto X0.here hx rfl (pc0 := 12) (pc' := 76) rfl (hb hby at_12) (by decide) (by decide) k) ?_
    exact j76 (32 : Int32)
  · refine go _ (s₁.setTop (mkF m 15 #[.val (.int p0), .val (.int p1), .val (.int (p1 &&& (7 : Int32))), .unset] [])) (fun t k => XS.ifYes X0.here hx rfl (pc0 := 6) (pc' := 15) rfl (hb hby at_6) rfl ((if0 _ _).trans (feq hc6).2) (by decide) (by decide) k) ?_
    refine go _ (s₁.setTop (mkF m 16 #[.val (.int p0), .val (.int p1), .val (.int (p1 &&& (7 : Int32))), .unset] [(.int (p1 &&& (7 : Int32)))])) (fun t k => XS.iloadN X0.here hx rfl (hb hby at_15) rfl k) ?_
    refine go _ (s₁.setTop (mkF m 17 #[.val (.int p0), .val (.int p1), .val (.int (p1 &&& (7 : Int32))), .unset] [(.int (1 : Int32)), (.int (p1 &&& (7 : Int32)))])) (fun t k => XS.iconst X0.here hx rfl (hb hby at_16) k) ?_
    rcases Decidable.em ((p1 &&& (7 : Int32)) = (1 : Int32)) with hc17 | hc17
    · refine go _ (s₁.setTop (mkF m 20 #[.val (.int p0), .val (.int p1), .val (.int (p1 &&& (7 : Int32))), .unset] [])) (fun t k => XS.icmpNo X0.here hx rfl (hb hby at_17) rfl (teq hc17).2 k) ?_
      refine go _ (s₁.setTop (mkF m 22 #[.val (.int p0), .val (.int p1), .val (.int (p1 &&& (7 : Int32))), .unset] [(.int (9 : Int32))])) (fun t k => XS.bipush X0.here hx rfl (hb hby at_20) k) ?_
      refine go _ (s₁.setTop (mkF m 23 #[.val (.int p0), .val (.int p1), .val (.int (p1 &&& (7 : Int32))), .val (.int (9 : Int32))] [])) (fun t k => XS.istoreN X0.here hx rfl (hb hby at_22) rfl (l' := #[.val (.int p0), .val (.int p1), .val (.int (p1 &&& (7 : Int32))), .val (.int (9 : Int32))]) rfl k) ?_
      refine go _ (s₁.setTop (mkF m 76 #[.val (.int p0), .val (.int p1), .val (.int (p1 &&& (7 : Int32))), .val (.int (9 : Int32))] [])) (fun t k => XS.goto X0.here hx rfl (pc0 := 23) (pc' := 76) rfl (hb hby at_23) (by decide) (by decide) k) ?_
      exact j76 (9 : Int32)
    · refine go _ (s₁.setTop (mkF m 26 #[.val (.int p0), .val (.int p1), .val (.int (p1 &&& (7 : Int32))), .unset] [])) (fun t k => XS.icmpYes X0.here hx rfl (pc0 := 17) (pc' := 26) rfl (hb hby at_17) rfl (feq hc17).2 (by decide) (by decide) k) ?_
      refine go _ (s₁.setTop (mkF m 27 #[.val (.int p0), .val (.int p1), .val (.int (p1 &&& (7 : Int32))), .unset] [(.int (p1 &&& (7 : Int32)))])) (fun t k => XS.iloadN X0.here hx rfl (hb hby at_26) rfl k) ?_
      refine go _ (s₁.setTop (mkF m 28 #[.val (.int p0), .val (.int p1), .val (.int (p1 &&& (7 : Int32))), .unset] [(.int (2 : Int32)), (.int (p1 &&& (7 : Int32)))])) (fun t k => XS.iconst X0.here hx rfl (hb hby at_27) k) ?_
      rcases Decidable.em ((p1 &&& (7 : Int32)) = (2 : Int32)) with hc28 | hc28
      · refine go _ (s₁.setTop (mkF m 31 #[.val (.int p0), .val (.int p1), .val (.int (p1 &&& (7 : Int32))), .unset] [])) (fun t k => XS.icmpNo X0.here hx rfl (hb hby at_28) rfl (teq hc28).2 k) ?_
        refine go _ (s₁.setTop (mkF m 33 #[.val (.int p0), .val (.int p1), .val (.int (p1 &&& (7 : Int32))), .unset] [(.int (13 : Int32))])) (fun t k => XS.bipush X0.here hx rfl (hb hby at_31) k) ?_
        refine go _ (s₁.setTop (mkF m 34 #[.val (.int p0), .val (.int p1), .val (.int (p1 &&& (7 : Int32))), .val (.int (13 : Int32))] [])) (fun t k => XS.istoreN X0.here hx rfl (hb hby at_33) rfl (l' := #[.val (.int p0), .val (.int p1), .val (.int (p1 &&& (7 : Int32))), .val (.int (13 : Int32))]) rfl k) ?_
        refine go _ (s₁.setTop (mkF m 76 #[.val (.int p0), .val (.int p1), .val (.int (p1 &&& (7 : Int32))), .val (.int (13 : Int32))] [])) (fun t k => XS.goto X0.here hx rfl (pc0 := 34) (pc' := 76) rfl (hb hby at_34) (by decide) (by decide) k) ?_
        exact j76 (13 : Int32)
      · refine go _ (s₁.setTop (mkF m 37 #[.val (.int p0), .val (.int p1), .val (.int (p1 &&& (7 : Int32))), .unset] [])) (fun t k => XS.icmpYes X0.here hx rfl (pc0 := 28) (pc' := 37) rfl (hb hby at_28) rfl (feq hc28).2 (by decide) (by decide) k) ?_
        refine go _ (s₁.setTop (mkF m 38 #[.val (.int p0), .val (.int p1), .val (.int (p1 &&& (7 : Int32))), .unset] [(.int (p1 &&& (7 : Int32)))])) (fun t k => XS.iloadN X0.here hx rfl (hb hby at_37) rfl k) ?_
        refine go _ (s₁.setTop (mkF m 39 #[.val (.int p0), .val (.int p1), .val (.int (p1 &&& (7 : Int32))), .unset] [(.int (3 : Int32)), (.int (p1 &&& (7 : Int32)))])) (fun t k => XS.iconst X0.here hx rfl (hb hby at_38) k) ?_
        rcases Decidable.em ((p1 &&& (7 : Int32)) = (3 : Int32)) with hc39 | hc39
        · refine go _ (s₁.setTop (mkF m 42 #[.val (.int p0), .val (.int p1), .val (.int (p1 &&& (7 : Int32))), .unset] [])) (fun t k => XS.icmpNo X0.here hx rfl (hb hby at_39) rfl (teq hc39).2 k) ?_
          refine go _ (s₁.setTop (mkF m 44 #[.val (.int p0), .val (.int p1), .val (.int (p1 &&& (7 : Int32))), .unset] [(.int (10 : Int32))])) (fun t k => XS.bipush X0.here hx rfl (hb hby at_42) k) ?_
          refine go _ (s₁.setTop (mkF m 45 #[.val (.int p0), .val (.int p1), .val (.int (p1 &&& (7 : Int32))), .val (.int (10 : Int32))] [])) (fun t k => XS.istoreN X0.here hx rfl (hb hby at_44) rfl (l' := #[.val (.int p0), .val (.int p1), .val (.int (p1 &&& (7 : Int32))), .val (.int (10 : Int32))]) rfl k) ?_
          refine go _ (s₁.setTop (mkF m 76 #[.val (.int p0), .val (.int p1), .val (.int (p1 &&& (7 : Int32))), .val (.int (10 : Int32))] [])) (fun t k => XS.goto X0.here hx rfl (pc0 := 45) (pc' := 76) rfl (hb hby at_45) (by decide) (by decide) k) ?_
          exact j76 (10 : Int32)
        · refine go _ (s₁.setTop (mkF m 48 #[.val (.int p0), .val (.int p1), .val (.int (p1 &&& (7 : Int32))), .unset] [])) (fun t k => XS.icmpYes X0.here hx rfl (pc0 := 39) (pc' := 48) rfl (hb hby at_39) rfl (feq hc39).2 (by decide) (by decide) k) ?_
          refine go _ (s₁.setTop (mkF m 49 #[.val (.int p0), .val (.int p1), .val (.int (p1 &&& (7 : Int32))), .unset] [(.int (p1 &&& (7 : Int32)))])) (fun t k => XS.iloadN X0.here hx rfl (hb hby at_48) rfl k) ?_
          refine go _ (s₁.setTop (mkF m 50 #[.val (.int p0), .val (.int p1), .val (.int (p1 &&& (7 : Int32))), .unset] [(.int (4 : Int32)), (.int (p1 &&& (7 : Int32)))])) (fun t k => XS.iconst X0.here hx rfl (hb hby at_49) k) ?_
          rcases Decidable.em ((p1 &&& (7 : Int32)) = (4 : Int32)) with hc50 | hc50
          · refine go _ (s₁.setTop (mkF m 53 #[.val (.int p0), .val (.int p1), .val (.int (p1 &&& (7 : Int32))), .unset] [])) (fun t k => XS.icmpNo X0.here hx rfl (hb hby at_50) rfl (teq hc50).2 k) ?_
            refine go _ (s₁.setTop (mkF m 54 #[.val (.int p0), .val (.int p1), .val (.int (p1 &&& (7 : Int32))), .unset] [(.int p0)])) (fun t k => XS.iloadN X0.here hx rfl (hb hby at_53) rfl k) ?_
            refine go _ (s₁.setTop (mkF m 56 #[.val (.int p0), .val (.int p1), .val (.int (p1 &&& (7 : Int32))), .unset] [(.int (63 : Int32)), (.int p0)])) (fun t k => XS.bipush X0.here hx rfl (hb hby at_54) k) ?_
            refine go _ (s₁.setTop (mkF m 57 #[.val (.int p0), .val (.int p1), .val (.int (p1 &&& (7 : Int32))), .unset] [(.int (p0 &&& (63 : Int32)))])) (fun t k => XS.iand X0.here hx rfl (hb hby at_56) rfl k) ?_
            refine go _ (s₁.setTop (mkF m 58 #[.val (.int p0), .val (.int p1), .val (.int (p1 &&& (7 : Int32))), .val (.int (p0 &&& (63 : Int32)))] [])) (fun t k => XS.istoreN X0.here hx rfl (hb hby at_57) rfl (l' := #[.val (.int p0), .val (.int p1), .val (.int (p1 &&& (7 : Int32))), .val (.int (p0 &&& (63 : Int32)))]) rfl k) ?_
            refine go _ (s₁.setTop (mkF m 76 #[.val (.int p0), .val (.int p1), .val (.int (p1 &&& (7 : Int32))), .val (.int (p0 &&& (63 : Int32)))] [])) (fun t k => XS.goto X0.here hx rfl (pc0 := 58) (pc' := 76) rfl (hb hby at_58) (by decide) (by decide) k) ?_
            exact j76 (p0 &&& (63 : Int32))
          · refine go _ (s₁.setTop (mkF m 61 #[.val (.int p0), .val (.int p1), .val (.int (p1 &&& (7 : Int32))), .unset] [])) (fun t k => XS.icmpYes X0.here hx rfl (pc0 := 50) (pc' := 61) rfl (hb hby at_50) rfl (feq hc50).2 (by decide) (by decide) k) ?_
            refine go _ (s₁.setTop (mkF m 62 #[.val (.int p0), .val (.int p1), .val (.int (p1 &&& (7 : Int32))), .unset] [(.int (p1 &&& (7 : Int32)))])) (fun t k => XS.iloadN X0.here hx rfl (hb hby at_61) rfl k) ?_
            refine go _ (s₁.setTop (mkF m 63 #[.val (.int p0), .val (.int p1), .val (.int (p1 &&& (7 : Int32))), .unset] [(.int (5 : Int32)), (.int (p1 &&& (7 : Int32)))])) (fun t k => XS.iconst X0.here hx rfl (hb hby at_62) k) ?_
            rcases Decidable.em ((p1 &&& (7 : Int32)) = (5 : Int32)) with hc63 | hc63
            · refine go _ (s₁.setTop (mkF m 66 #[.val (.int p0), .val (.int p1), .val (.int (p1 &&& (7 : Int32))), .unset] [])) (fun t k => XS.icmpNo X0.here hx rfl (hb hby at_63) rfl (teq hc63).2 k) ?_
              refine go _ (s₁.setTop (mkF m 67 #[.val (.int p0), .val (.int p1), .val (.int (p1 &&& (7 : Int32))), .unset] [(.int p0)])) (fun t k => XS.iloadN X0.here hx rfl (hb hby at_66) rfl k) ?_
              refine go _ (s₁.setTop (mkF m 69 #[.val (.int p0), .val (.int p1), .val (.int (p1 &&& (7 : Int32))), .unset] [(.int (65535 : Int32)), (.int p0)])) (fun t k => X0.ldcInt hx hown (mvT hZ (hw _ (List.mem_of_getElem? (i := 9) rfl))) (g := (mkF m 67 #[.val (.int p0), .val (.int p1), .val (.int (p1 &&& (7 : Int32))), .unset] [(.int p0)])) rfl (hb hby at_67) _ k) ?_
              refine go _ (s₁.setTop (mkF m 70 #[.val (.int p0), .val (.int p1), .val (.int (p1 &&& (7 : Int32))), .unset] [(.int (p0 &&& (65535 : Int32)))])) (fun t k => XS.iand X0.here hx rfl (hb hby at_69) rfl k) ?_
              refine go _ (s₁.setTop (mkF m 71 #[.val (.int p0), .val (.int p1), .val (.int (p1 &&& (7 : Int32))), .val (.int (p0 &&& (65535 : Int32)))] [])) (fun t k => XS.istoreN X0.here hx rfl (hb hby at_70) rfl (l' := #[.val (.int p0), .val (.int p1), .val (.int (p1 &&& (7 : Int32))), .val (.int (p0 &&& (65535 : Int32)))]) rfl k) ?_
              refine go _ (s₁.setTop (mkF m 76 #[.val (.int p0), .val (.int p1), .val (.int (p1 &&& (7 : Int32))), .val (.int (p0 &&& (65535 : Int32)))] [])) (fun t k => XS.goto X0.here hx rfl (pc0 := 71) (pc' := 76) rfl (hb hby at_71) (by decide) (by decide) k) ?_
              exact j76 (p0 &&& (65535 : Int32))
            · refine go _ (s₁.setTop (mkF m 74 #[.val (.int p0), .val (.int p1), .val (.int (p1 &&& (7 : Int32))), .unset] [])) (fun t k => XS.icmpYes X0.here hx rfl (pc0 := 63) (pc' := 74) rfl (hb hby at_63) rfl (feq hc63).2 (by decide) (by decide) k) ?_
              refine go _ (s₁.setTop (mkF m 75 #[.val (.int p0), .val (.int p1), .val (.int (p1 &&& (7 : Int32))), .unset] [(.int p0)])) (fun t k => XS.iloadN X0.here hx rfl (hb hby at_74) rfl k) ?_
              refine go _ (s₁.setTop (mkF m 76 #[.val (.int p0), .val (.int p1), .val (.int (p1 &&& (7 : Int32))), .val (.int p0)] [])) (fun t k => XS.istoreN X0.here hx rfl (hb hby at_75) rfl (l' := #[.val (.int p0), .val (.int p1), .val (.int (p1 &&& (7 : Int32))), .val (.int p0)]) rfl k) ?_
              exact j76 p0
set_option maxRecDepth 65536 in
set_option maxHeartbeats 40000000 in
theorem comes_1 {Post : Tables → Env → Array Value → State → Outcome → State → Prop} (hpost : ∀ tb e args s v u, (limb_1_1.after args s (.returned v) u = true ∧ limb_1_2.after args s (.returned v) u = true ∧ True) → FrameEnd s (.returned v) u (Jvm.fieldLocs frame_1_writes args s ++ Jvm.arrayLocs frame_1_arrays args s ++ Jvm.staticLocs frame_1_statics s) 0 0 → Post tb e args s (.returned v) u) :
    ArmFor flags0 classFile x code maxLocals ret World_1 tables_1 room_1 Calls_1 rest_1 Pre_1 Post := by
  intro l hfl _ _ p e ha hc hk s m args below hf hA hF happ hP
  obtain ⟨hcalls, hrest, hpre⟩ := hP
  obtain ⟨-, -, -, hnamed, -, -, -, hat⟩ := (Spec.applies_iff hf).mp happ
  obtain ⟨hg, hn⟩ := and_e (Cond.before_iff.mp (show (Jvm.Cond.and given_1 narrow_1).before args s = true from hpre))
  obtain ⟨gg1, gg2⟩ := and_e hg
  obtain ⟨gg3, gg4⟩ := and_e gg2
  obtain ⟨w0, w1, rfl⟩ : ∃ w0 w1 : Value, args = #[w0, w1] := by
    have hs : args.size = 2 := by simpa [Cond.value, given_1] using gg1
    obtain ⟨L⟩ := args
    match L, hs with
    | [w0, w1], _ => exact ⟨w0, w1, rfl⟩
  have hw := fun d (hd : d ∈ tables_1) => atoms_spec (ws := Jvm.Cond.code x code maxLocals ret :: tables_1) hat d (List.mem_cons_of_mem _ hd)
  have hfit : Fit s := fun {y c} hc i hi => by
    obtain ⟨ha, rfl⟩ := Array.getElem?_eq_some_iff.mp hc
    have q := List.all_eq_true.mp ((Array.all_eq_true_iff_forall_mem.mp hF) _ (Array.getElem_mem ha)) i (List.mem_range.mpr hi)
    simpa [Array.getElem?_eq_getElem hi] using q
  obtain ⟨i0, ei0⟩ := is_v gg3
  obtain rfl : w0 = (.int i0) := Option.some.inj ei0
  obtain ⟨i1, ei1⟩ := is_v gg4
  obtain rfl : w1 = (.int i1) := Option.some.inj ei1
  obtain ⟨n, o, h1, h2, h3, _, L, rfl, ⟨rfl, N⟩, hq⟩ := rm0 l s _ hw tables_1 i0 i1 s.heap s.heap.size (Nat.le_refl _)  p e ha hc hk s m _ below hf ((Spec.applies_iff_loose hf).mp happ).1 ⟨rfl, State.Warmed39.refl s, rfl⟩ trivial
  refine ⟨n, _, h1, h2, h3, hpost _ _ _ _ _ _ ⟨Cond.after_iff.mpr rfl, Cond.after_iff.mpr (eq_i res_at (Term.int_eval (1)) rfl), trivial⟩ ⟨hq.1, hq.2.1, (hq.2.2.sift fun y hy => Or.inr (N y hy)).mono (by decide) (by decide)⟩⟩
theorem main_1_1 : Claimed_1_1 := comes_1 fun _ _ _ _ _ _ h hF => ⟨h.1, hF⟩
theorem main_1_2 : Claimed_1_2 := comes_1 fun _ _ _ _ _ _ h hF => ⟨h.2.1, hF⟩
end Jvm.Pilot.@@N@@
namespace Jvm.Pilot.@@N@@
open Jvm Jvm.ClassFile Sem Op Lib Jvm.Free Jvm.Stand Jvm.Pilot.@@N@@.Jvm.D
/-! MADE BY PROGRAM (witnessworld.py) out of the Statement's table words and the real class files: 9 classes; the members and pool entries that the words name. The judged class is class 1, her method 2. -/
namespace start1
open Jvm.ClassFile
def u (s : String) : CpInfo := .utf8 (stringToUtf16 s)
/-- a pool by its gaps: so many unusable entries, then the entry; so many at the end -/
def gap : Nat → List CpInfo → List CpInfo
  | 0, r => r
  | n + 1, r => .unusable :: gap n r
def poolList (es : List (Nat × CpInfo)) (last : Nat) : List CpInfo := es.foldr (fun e r => gap e.1 (e.2 :: r)) (gap last [])
def pool (es : List (Nat × CpInfo)) (last : Nat) : Array CpInfo := ⟨poolList es last⟩
def fileOf (pool : Array CpInfo) (this : Nat) (attrs : Array Attribute := #[]) (ms : Array MethodInfo := #[]) (fl : Nat := 33) (sup : Nat := 0) (ifs : Array Nat := #[]) (fds : Array FieldInfo := #[]) : ClassFile where
  minorVersion := 0
  majorVersion := 65
  constantPool := pool
  accessFlags := fl
  thisClass := this
  superClass := sup
  interfaces := ifs
  fields := fds
  methods := ms
  attributes := attrs
def plain (name : String) (sup : Option ClassId) : Class where
  name := name
  kind := .ordinary
  loader := none
  accessFlags := 33
  super := sup
  interfaces := #[]
  cf := none
  fields := #[]
  methods := #[]
  instanceTypes := #[]
  staticTypes := #[]
  resolved := #[]
  callSites := []
  init := .initialized
  statics := none
  mirror := none

def pool0 : Array CpInfo := pool [(5, u "<init>"), (0, u "()V"), (1, .class_ 10), (1, u "java/lang/Object")] 113

def k0m0 : Method := { name := "<init>", desc := "()V", sig := { parameters := [], returnType := none }, accessFlags := 1, code := none }
/-- java/lang/Object -/
def k0 : Class := { plain "java/lang/Object" none with
  accessFlags := 33
  interfaces := #[]
  cf := some (fileOf pool0 8 #[] #[{ accessFlags := 1, nameIndex := 5, descriptorIndex := 6, attributes := #[] }] 33 0 #[] #[])
  fields := #[]
  methods := #[k0m0]
  instanceTypes := #[]
  staticTypes := #[]
  resolved := Array.replicate 124 none
  statics := none }

def pool1 : Array CpInfo := pool [(2, .class_ 4), (1, u "java/lang/Object"), (0, u "<init>"), (0, u "()V"), (0, .long 4294977024), (1, .integer 65535), (0, .methodref 11 12), (0, .class_ 13), (0, .nameAndType 14 15), (0, u "com/example/relata/relata/codec/MarcXml"), (0, u "isWhiteSpace"), (0, u "(I)Z"), (0, .methodref 17 18), (0, .class_ 19), (0, .nameAndType 20 15), (0, u "com/example/relata/relata/codec/MarcXmlIsWhiteSpacePinLaw"), (0, u "expected"), (3, u "law"), (0, u "(II)Z")] 2

def k1m0 : Method := { name := "<init>", desc := "()V", sig := { parameters := [], returnType := none }, accessFlags := 2, code := none }
def k1c1 : Code := { maxStack := 4, maxLocals := 1, code := method_2_code, exceptionTable := #[], attributes := #[] }
def k1m1 : Method := { name := "expected", desc := "(I)Z", sig := { parameters := [.int], returnType := some .boolean }, accessFlags := 10, code := some k1c1 }
def k1c2 : Code := { maxStack := 2, maxLocals := 4, code := code, exceptionTable := #[], attributes := #[] }
def k1m2 : Method := { name := "law", desc := "(II)Z", sig := { parameters := [.int, .int], returnType := some .boolean }, accessFlags := 9, code := some k1c2 }
/-- com/example/relata/relata/codec/MarcXmlIsWhiteSpacePinLaw -/
def k1 : Class := { plain "com/example/relata/relata/codec/MarcXmlIsWhiteSpacePinLaw" (some 0) with
  accessFlags := 49
  interfaces := #[]
  cf := some (fileOf pool1 17 #[] #[{ accessFlags := 2, nameIndex := 5, descriptorIndex := 6, attributes := #[] }, { accessFlags := 10, nameIndex := 20, descriptorIndex := 15, attributes := #[] }, { accessFlags := 9, nameIndex := 24, descriptorIndex := 25, attributes := #[] }] 49 2 #[] #[])
  fields := #[]
  methods := #[k1m0, k1m1, k1m2]
  instanceTypes := #[]
  staticTypes := #[]
  resolved := Array.replicate 28 none
  statics := none }

def pool2 : Array CpInfo := pool [(2, .class_ 4), (1, u "java/lang/Object"), (0, u "<init>"), (0, u "()V"), (0, .class_ 8), (0, u "com/example/relata/relata/codec/MarcXml"), (0, u "NAMESPACE"), (0, u "Ljava/lang/String;"), (3, u "COLLECTION"), (2, u "RECORD"), (2, u "LEADER"), (2, u "CONTROL_FIELD"), (2, u "DATA_FIELD"), (2, u "SUBFIELD"), (2, u "TAG"), (2, u "INDICATOR"), (2, u "CODE"), (2, u "MAX_VALUE_LENGTH"), (0, u "I"), (1, u "MAX_NAME_LENGTH"), (1, u "BYTE_ORDER_MARK"), (0, u "C"), (3, u "isWhiteSpace"), (0, u "(I)Z")] 3

def k2m0 : Method := { name := "<init>", desc := "()V", sig := { parameters := [], returnType := none }, accessFlags := 2, code := none }
def k2c1 : Code := { maxStack := 2, maxLocals := 1, code := prog_26_method_2_code, exceptionTable := #[], attributes := #[] }
def k2m1 : Method := { name := "isWhiteSpace", desc := "(I)Z", sig := { parameters := [.int], returnType := some .boolean }, accessFlags := 8, code := some k2c1 }
/-- com/example/relata/relata/codec/MarcXml -/
def k2 : Class := { plain "com/example/relata/relata/codec/MarcXml" (some 0) with
  accessFlags := 48
  interfaces := #[]
  cf := some (fileOf pool2 7 #[] #[{ accessFlags := 2, nameIndex := 5, descriptorIndex := 6, attributes := #[] }, { accessFlags := 8, nameIndex := 51, descriptorIndex := 52, attributes := #[] }] 48 2 #[] #[{ accessFlags := 24, nameIndex := 9, descriptorIndex := 10, attributes := #[] }, { accessFlags := 24, nameIndex := 14, descriptorIndex := 10, attributes := #[] }, { accessFlags := 24, nameIndex := 17, descriptorIndex := 10, attributes := #[] }, { accessFlags := 24, nameIndex := 20, descriptorIndex := 10, attributes := #[] }, { accessFlags := 24, nameIndex := 23, descriptorIndex := 10, attributes := #[] }, { accessFlags := 24, nameIndex := 26, descriptorIndex := 10, attributes := #[] }, { accessFlags := 24, nameIndex := 29, descriptorIndex := 10, attributes := #[] }, { accessFlags := 24, nameIndex := 32, descriptorIndex := 10, attributes := #[] }, { accessFlags := 24, nameIndex := 35, descriptorIndex := 10, attributes := #[] }, { accessFlags := 24, nameIndex := 38, descriptorIndex := 10, attributes := #[] }, { accessFlags := 24, nameIndex := 41, descriptorIndex := 42, attributes := #[] }, { accessFlags := 24, nameIndex := 44, descriptorIndex := 42, attributes := #[] }, { accessFlags := 24, nameIndex := 46, descriptorIndex := 47, attributes := #[] }])
  fields := #[{ name := "NAMESPACE", type := (.object "java/lang/String"), accessFlags := 24, slot := 0, constantValue := 0 }, { name := "COLLECTION", type := (.object "java/lang/String"), accessFlags := 24, slot := 1, constantValue := 0 }, { name := "RECORD", type := (.object "java/lang/String"), accessFlags := 24, slot := 2, constantValue := 0 }, { name := "LEADER", type := (.object "java/lang/String"), accessFlags := 24, slot := 3, constantValue := 0 }, { name := "CONTROL_FIELD", type := (.object "java/lang/String"), accessFlags := 24, slot := 4, constantValue := 0 }, { name := "DATA_FIELD", type := (.object "java/lang/String"), accessFlags := 24, slot := 5, constantValue := 0 }, { name := "SUBFIELD", type := (.object "java/lang/String"), accessFlags := 24, slot := 6, constantValue := 0 }, { name := "TAG", type := (.object "java/lang/String"), accessFlags := 24, slot := 7, constantValue := 0 }, { name := "INDICATOR", type := (.object "java/lang/String"), accessFlags := 24, slot := 8, constantValue := 0 }, { name := "CODE", type := (.object "java/lang/String"), accessFlags := 24, slot := 9, constantValue := 0 }, { name := "MAX_VALUE_LENGTH", type := .int, accessFlags := 24, slot := 10, constantValue := 0 }, { name := "MAX_NAME_LENGTH", type := .int, accessFlags := 24, slot := 11, constantValue := 0 }, { name := "BYTE_ORDER_MARK", type := .char, accessFlags := 24, slot := 12, constantValue := 0 }]
  methods := #[k2m0, k2m1]
  instanceTypes := #[]
  staticTypes := #[(.object "java/lang/String"), (.object "java/lang/String"), (.object "java/lang/String"), (.object "java/lang/String"), (.object "java/lang/String"), (.object "java/lang/String"), (.object "java/lang/String"), (.object "java/lang/String"), (.object "java/lang/String"), (.object "java/lang/String"), .int, .int, .char]
  resolved := Array.replicate 56 none
  statics := none }

def pool3 : Array CpInfo := pool [(1, u "java/lang/Cloneable"), (0, .class_ 1), (0, u "java/lang/Object"), (0, .class_ 3)] 3

/-- java/lang/Cloneable -/
def k3 : Class := { plain "java/lang/Cloneable" (some 0) with
  accessFlags := 1537
  interfaces := #[]
  cf := some (fileOf pool3 2 #[] #[] 1537 4 #[] #[])
  fields := #[]
  methods := #[]
  instanceTypes := #[]
  staticTypes := #[]
  resolved := Array.replicate 8 none
  statics := none }

def pool4 : Array CpInfo := pool [(1, u "java/io/Serializable"), (0, .class_ 1), (0, u "java/lang/Object"), (0, .class_ 3)] 3

/-- java/io/Serializable -/
def k4 : Class := { plain "java/io/Serializable" (some 0) with
  accessFlags := 1537
  interfaces := #[]
  cf := some (fileOf pool4 2 #[] #[] 1537 4 #[] #[])
  fields := #[]
  methods := #[]
  instanceTypes := #[]
  staticTypes := #[]
  resolved := Array.replicate 8 none
  statics := none }

/-- the primitive byte -/
def k5 : Class := { plain "byte" none with kind := .primitive 'B', accessFlags := 0x411 }
/-- [B -/
def k6 : Class := { plain "[B" (some 0) with kind := .array 5 .byte, interfaces := #[3, 4], accessFlags := 1041 }

/-- the primitive int -/
def k7 : Class := { plain "int" none with kind := .primitive 'I', accessFlags := 0x411 }
/-- [I -/
def k8 : Class := { plain "[I" (some 0) with kind := .array 7 .int, interfaces := #[3, 4], accessFlags := 1041 }

def heap : Heap := #[]
def classes : Array Class := #[k0, k1, k2, k3, k4, k5, k6, k7, k8]
def interned : List (Array UInt16 × Addr) := []
def slotsUsed : Nat := 0
def theMethod : MethodId := ⟨1, 2⟩
def args0 : Array Value := #[.int 40, .int 3]
def aboutOver (below : List Frame) : State where
  vm := { classes := classes, interned := interned.toArray }
  heap := heap
  slotsUsed := slotsUsed
  threads := #[{ frames := .invoking theMethod args0 :: below }]
def below0 : List Frame := [.native { method := ⟨0, 0⟩, args := #[] }]
def about1 : State := aboutOver below0
def p0 : Program := .bare "" "" ""
def e0 : Env := launch0.env 0 0 0
theorem w_frames : about1.frames = Frame.invoking theMethod args0 :: below0 := rfl
set_option maxRecDepth 65536 in
theorem w_args : argsFit about1.vm theMethod args0 = true := by decide +kernel
set_option maxRecDepth 65536 in
theorem w_heap : heapFits about1 = true := by decide +kernel
set_option maxRecDepth 65536 in
theorem w_runnable : about1.curStatus? = some .runnable := by decide +kernel
set_option maxRecDepth 65536 in
theorem w_alone : about1.alone = true := by decide +kernel
set_option maxRecDepth 65536 in
theorem w_named : about1.methodNamed? x = some theMethod := by decide +kernel
set_option maxRecDepth 65536 in
theorem w_hears : about1.hears theMethod below0 = true := by decide +kernel
set_option maxRecDepth 65536 in
theorem w_ripe : about1.ripe theMethod args0 below0 = true := by decide +kernel
theorem w_running : about1.status = .running := rfl
set_option maxRecDepth 65536 in
theorem w_room : about1.hasRoom e0.platform room_1 = true :=
  launch0.hasRoom_least _ room_1 (by decide +kernel) (by decide +kernel) (by decide +kernel) (by decide +kernel) (by decide +kernel) (by decide +kernel)
theorem allAtoms_all (ts : List Jvm.Cond) (a : Array Jvm.Value) (st : Jvm.State) : (allAtoms ts).before a st = ts.all (fun c => c.before a st) := by
  induction ts with
  | nil => rfl
  | cons c t ih =>
    show (Jvm.Cond.and c (allAtoms t)).before a st = _
    rw [Jvm.Cond.before_and, ih, List.all_cons]
def words1 : List Jvm.Cond := Jvm.Cond.code x code maxLocals ret :: tables_1
/-- a 'code' word, met by the world's own term for the bytes: nothing is compared byte by byte -/
theorem code_word {y : MethodName} {bytes : ByteArray} {mx : Nat} {rt : Option FieldType} {a : Array Value} {s : State} {m : MethodId} {meth : Method} {c : Code} (h1 : s.methodNamed? y = some m) (h2 : s.vm.method? m = some meth) (h3 : meth.code = some c) (h4 : c.code = bytes)
    (h5 : (c.maxLocals == mx && c.exceptionTable.isEmpty && decide (c.maxStack ≤ mostOperands) && decide (meth.sig.returnType = rt) && !meth.locks && decide (parseMethodDescriptor y.desc = some meth.sig)) = true) : (Jvm.Cond.code y bytes mx rt).before a s = true := by
  simp only [Bool.and_eq_true, beq_iff_eq, Bool.not_eq_true', decide_eq_true_eq] at h5
  obtain ⟨⟨⟨⟨⟨g1, g2⟩, g3⟩, g4⟩, g5⟩, g6⟩ := h5
  simp [Cond.before, Cond.holds, Cond.value, h1, h2, h3, h4, g1, g2, g3, g4, g5, g6]
def isCode : Jvm.Cond → Bool
  | .code _ _ _ _ => true
  | _ => false
theorem all_split {L : List Jvm.Cond} {P : Jvm.Cond → Bool} (h1 : L.all (fun c => isCode c || P c) = true) (h2 : ∀ c ∈ L.filter isCode, P c = true) : L.all P = true := by
  refine List.all_eq_true.mpr fun c hc => ?_
  have h := List.all_eq_true.mp h1 c hc
  rcases Bool.eq_false_or_eq_true (isCode c) with hi | hi
  · exact h2 c (List.mem_filter.mpr ⟨hc, hi⟩)
  · simpa [hi] using h
set_option maxRecDepth 65536 in
theorem w_c0 : (Jvm.Cond.code x code maxLocals ret).before args0 about1 = true := code_word (m := ⟨1, 2⟩) (meth := k1m2) (c := k1c2) (by decide +kernel) rfl rfl rfl (by decide +kernel)
set_option maxRecDepth 65536 in
theorem w_c1 : (Jvm.Cond.code ({ cls := "com/example/relata/relata/codec/MarcXml", name := "isWhiteSpace", desc := "(I)Z" } : Jvm.MethodName) prog_26_method_2_code (1 : Nat) (Option.some Jvm.ClassFile.FieldType.boolean)).before args0 about1 = true := code_word (m := ⟨2, 1⟩) (meth := k2m1) (c := k2c1) (by decide +kernel) rfl rfl rfl (by decide +kernel)
set_option maxRecDepth 65536 in
theorem w_c2 : (Jvm.Cond.code ({ cls := "com/example/relata/relata/codec/MarcXmlIsWhiteSpacePinLaw", name := "expected", desc := "(I)Z" } : Jvm.MethodName) method_2_code (1 : Nat) (Option.some Jvm.ClassFile.FieldType.boolean)).before args0 about1 = true := code_word (m := ⟨1, 1⟩) (meth := k1m1) (c := k1c1) (by decide +kernel) rfl rfl rfl (by decide +kernel)
def codes1 : List Jvm.Cond := [Jvm.Cond.code x code maxLocals ret, Jvm.Cond.code ({ cls := "com/example/relata/relata/codec/MarcXml", name := "isWhiteSpace", desc := "(I)Z" } : Jvm.MethodName) prog_26_method_2_code (1 : Nat) (Option.some Jvm.ClassFile.FieldType.boolean), Jvm.Cond.code ({ cls := "com/example/relata/relata/codec/MarcXmlIsWhiteSpacePinLaw", name := "expected", desc := "(I)Z" } : Jvm.MethodName) method_2_code (1 : Nat) (Option.some Jvm.ClassFile.FieldType.boolean)]
set_option maxRecDepth 65536 in
theorem codes_eq : words1.filter isCode = codes1 := rfl
theorem w_codes : ∀ c ∈ words1.filter isCode, c.before args0 about1 = true := by
  rw [codes_eq]
  intro c hc
  simp only [codes1, List.mem_cons, List.not_mem_nil, or_false] at hc
  rcases hc with rfl | rfl | rfl
  · exact w_c0
  · exact w_c1
  · exact w_c2
set_option maxRecDepth 65536 in
theorem w_t1 : words1.all (fun c => isCode c || c.before args0 about1) = true := by decide +kernel
theorem w_tables : (allAtoms (Jvm.Cond.code x code maxLocals ret :: tables_1)).before args0 about1 = true := by
  rw [allAtoms_all]
  show words1.all (fun c => c.before args0 about1) = true
  refine all_split ?_ w_codes
  rw [w_t1]
set_option maxRecDepth 65536 in
theorem w_case : (Jvm.Cond.and given_1 narrow_1).before args0 about1 = true := by decide +kernel
theorem w_applies : (headSpec (Jvm.Cond.code x code maxLocals ret :: tables_1) room_1).applies x e0.platform about1 = true :=
  (Spec.applies_iff w_frames).mpr ⟨w_running, w_runnable, w_alone, w_named, w_hears, w_ripe, w_room, w_tables⟩
theorem atStart : AtStart classFile x code maxLocals ret World_1 tables_1 room_1 Calls_1 rest_1 Pre_1 launch0 p0 e0 about1 theMethod args0 below0 :=
  ⟨lists_1, trivial, launch0.admits_env _ _ _, launch0.least_env, fairChoices_fair.cas, fairChoices_fair.clock, w_frames, w_args, w_heap, w_applies, trivial, trivial, w_case⟩
end start1
theorem witness_1 : WitnessClaimed_1 := ⟨start1.p0, start1.e0, start1.about1, start1.theMethod, start1.args0, start1.below0, start1.atStart⟩
end Jvm.Pilot.@@N@@
