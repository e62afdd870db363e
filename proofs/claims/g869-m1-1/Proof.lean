import JvmDerived
import JvmDerived.Pilot.@@N@@Statement
import JvmDerived.Pilot.@@N@@Code
set_option linter.unusedVariables false
set_option linter.unusedSimpArgs false
namespace Jvm.Pilot.@@N@@
open Jvm Jvm.ClassFile Sem Op Lib Jvm.Free Jvm.Stand Jvm.LawKit Jvm.RoadKit Bundle Jvm.Pilot.@@N@@.Jvm.D
/-! my own layer: a body's walk by a predicate on states (go: one step on, fin: a return), arrays by their elements -/
theorem own_metfree {l : Launch} {x : MethodName} {ws : List Jvm.Cond} {R : Room} {code : ByteArray} {maxL : Nat} {ret : Option FieldType} {as' : Array Value} {Z : State} {h0 : Heap} {Q : Option Value → Heap → List Loc → Prop} (hpl : plainFor x = true)
    (body : ∀ (p : Program) (e : Env) (s : State) (m : MethodId) (below : List Frame) (meth : Method) (c : Code) (s₁ : State),
      Stand p l e R s m as' below meth c s₁ [] 0 0 → p.tables.exec = Jvm.exec → c.code = code → c.maxLocals = maxL → meth.sig.returnType = ret → s.vm.findClass x.cls = some m.cls → meth.name = x.name → Z.Warmed39 s.vm → s₁.heap = h0 →
      ∀ G : State → Prop, (∀ U U', (∀ t, Steps p.tables e below U' t → Steps p.tables e below U t) → G U' → G U) →
        (∀ {T : State} {locs : List Loc} {cells slots : Nat} (v : Option Value) (g : JFrame), Stand p l e R s m as' below meth c T locs cells slots → (ret = none → v = none) →
          (∀ fs, (∀ (f : JFrame) (acts : List Action), f.method = m → f.locked = none → f.entered = [] → (doReturn e (T.setTop f) acts v).1 = T.setFrames fs) → Steps p.tables e below (T.setTop g) (T.setFrames fs)) →
          Q v T.heap locs → cells ≤ R.cells → slots ≤ R.slots → G (T.setTop g)) →
        G (s₁.setTop (entryFrame m as' maxL))) :
    MetFree l x (head1 (Jvm.Cond.code x code maxL ret :: ws) R) (fun a U => a = as' ∧ Z.Warmed39 U.vm ∧ U.heap = h0) (fun _ _ _ _ _ => True) (fun _ U o U' => ∃ v L, o = .returned v ∧ Q v U'.heap L ∧ FrameEnd U o U' L R.cells R.slots) := by
  refine MetFree.of_bodySF hpl hisR ?_
  intro p e s m args below meth c s₁ Bd hml0 hP hK
  obtain ⟨rfl, hZ, hh⟩ := hP
  have X0 : Stand p l e R s m args below meth c s₁ [] 0 0 := Stand.of_body Bd
  refine body p e s m below meth c s₁ X0 Bd.exec Bd.bytes hml0 Bd.returns (findClass_of_methodNamed Bd.named) (name_of_methodNamed Bd.named Bd.method).1 hZ (by rw [← hh, Bd.state]; rfl)
    (fun U => ∃ s₂ o, Steps p.tables e below U s₂ ∧ s₂.status = .running ∧ Ended s₂ below o ∧ ∃ v L, o = .returned v ∧ Q v s₂.heap L ∧ FrameEnd s o s₂ L R.cells R.slots) ?_ ?_
  · rintro U U' h ⟨s₂, o, h1, h2⟩
    exact ⟨s₂, o, h _ h1, h2⟩
  · intro T locs cells slots v g X hv hst hq hc hs
    obtain ⟨fs, hr, hrun, hended, hW, hsame⟩ := X.leave (v := v) (by rw [Bd.returns]; exact hv)
    exact ⟨_, _, hst fs hr, hrun, hended, _, _, rfl, hq, ⟨_, rfl⟩, hW, hsame.mono hc hs⟩
theorem own_lrem {tb : Tables} [Ours tb] {e : Env} {below : List Frame} {T target : State} {m : MethodId} {c : Code} {g : JFrame} (h : At T m c below) (hx : tb.exec = Jvm.exec) (hg : g.method = m) {x y : Int64} {rest : List Value} (hd : decode c.code g.pc = .ok (.lrem, 1)) (hs : g.stack = .long y :: .long x :: rest) (hy : y ≠ 0)
    (hr : Steps tb e below (T.setTop { g with pc := g.pc + 1, stack := .long (x % y) :: rest }) target) : Steps tb e below (T.setTop g) target :=
  XS.lrem h hx hg hd hs hy (by rw [lrem_mod]; exact hr)
def own_spec4 (vm : Int64) (ve : Int32) : Int64 := if (63 : Int32) < ((62 : Int32) - ve) then 0 else (((vm + ((1 : Int64) <<< ((((62 : Int32) - ve) - (1 : Int32)) &&& 0x3f).toInt64)).toUInt64 >>> (((62 : Int32) - ve) &&& 0x3f).toInt64.toUInt64).toInt64)
def own_spec5 (vm : Int64) (ve : Int32) : Int64 := if ((62 : Int32) - ve) < (64 : Int32) then
    (if (vm &&& (((1 : Int64) <<< (((62 : Int32) - ve) &&& 0x3f).toInt64) - (1 : Int64))) < ((1 : Int64) <<< ((((62 : Int32) - ve) - (1 : Int32)) &&& 0x3f).toInt64) then ((vm.toUInt64 >>> (((62 : Int32) - ve) &&& 0x3f).toInt64.toUInt64).toInt64)
      else (((vm.toUInt64 >>> (((62 : Int32) - ve) &&& 0x3f).toInt64.toUInt64).toInt64) + (1 : Int64))) else 0
theorem own_d1 (p : Int32) : 0 ≤ (p &&& (1073741823 : Int32)).toInt ∧ (p &&& (1073741823 : Int32)).toInt < 1073741824 := by
  have h1 := c_mask p (1073741823 : Int32) 30 (by decide) (by decide)
  omega
theorem own_d2 (p : Int32) : 0 ≤ ((p &&& (1073741823 : Int32)) &&& (127 : Int32)).toInt ∧ ((p &&& (1073741823 : Int32)) &&& (127 : Int32)).toInt < 1073741824 := by
  have h1 := c_mask (p &&& (1073741823 : Int32)) (127 : Int32) 7 (by decide) (by decide)
  omega
theorem own_round (V P : Int) (hP : 0 < P) : (V + P) / (2 * P) = V / (2 * P) + if V % (2 * P) < P then 0 else 1 := by
  have h1 := Int.emod_add_mul_ediv V (2 * P)
  have h2 := Int.emod_nonneg V (show 2 * P ≠ 0 by omega)
  have h3 := Int.emod_lt_of_pos V (show 0 < 2 * P by omega)
  generalize V / (2 * P) = q at *
  generalize V % (2 * P) = r at *
  split
  · rw [show V + P = (r + P) + 2 * P * q by omega, Int.add_mul_ediv_left _ _ (by omega), Int.ediv_eq_zero_of_lt (by omega) (by omega)]
    omega
  · rw [show V + P = (r - P) + 2 * P * (q + 1) by rw [Int.mul_add]; omega, Int.add_mul_ediv_left _ _ (by omega), Int.ediv_eq_zero_of_lt (by omega) (by omega)]
    omega
theorem own_pows : ∀ k : Fin 64, ((1 : Int64) <<< ((Int32.ofNat k.1) &&& 0x3f).toInt64).toBitVec.toNat = 2 ^ k.1 ∧ (((1 : Int64) <<< ((Int32.ofNat k.1) &&& 0x3f).toInt64) - 1).toBitVec.toNat = 2 ^ k.1 - 1 ∧ (Int32.ofNat k.1).toBitVec.toNat % 64 = k.1 := by decide +kernel
theorem own_pows' : ∀ k : Fin 63, ((1 : Int64) <<< ((Int32.ofNat k.1) &&& 0x3f).toInt64).toInt = 2 ^ k.1 := by decide +kernel
theorem own_eq (vm : Int64) (sh : Int32) (h1 : 4611686018427387904 ≤ vm.toInt) (h2 : 2 ≤ sh.toInt) :
    (if (63 : Int32) < sh then (0 : Int64) else (((vm + ((1 : Int64) <<< ((sh - (1 : Int32)) &&& 0x3f).toInt64)).toUInt64 >>> (sh &&& 0x3f).toInt64.toUInt64).toInt64)) =
    (if sh < (64 : Int32) then
    (if (vm &&& (((1 : Int64) <<< (sh &&& 0x3f).toInt64) - (1 : Int64))) < ((1 : Int64) <<< ((sh - (1 : Int32)) &&& 0x3f).toInt64) then ((vm.toUInt64 >>> (sh &&& 0x3f).toInt64.toUInt64).toInt64)
      else (((vm.toUInt64 >>> (sh &&& 0x3f).toInt64.toUInt64).toInt64) + (1 : Int64))) else 0) := by
  have k63 : (63 : Int32).toInt = 63 := by decide
  have k64 : (64 : Int32).toInt = 64 := by decide
  have k1 : (1 : Int64).toInt = 1 := by decide
  have k1' : (1 : Int32).toInt = 1 := by decide
  by_cases hs : sh < (64 : Int32)
  · have hs' : ¬ (63 : Int32) < sh := by simp only [Int32.lt_iff_toInt_lt] at *; omega
    rw [if_neg hs', if_pos hs]
    rw [Int32.lt_iff_toInt_lt, k64] at hs
    obtain ⟨k, hk⟩ : ∃ k : Nat, sh.toInt = (k : Int) := ⟨sh.toInt.toNat, by omega⟩
    have e1 : sh = Int32.ofNat k := by
      apply Int32.toInt_inj.mp
      rw [Int32.toInt_ofNat_of_lt (by omega), hk]
    have e2 : sh - (1 : Int32) = Int32.ofNat (k - 1) := by
      apply Int32.toInt_inj.mp
      have := c_isub sh (1 : Int32)
      have := rng32 (sh - (1 : Int32))
      rw [Int32.toInt_ofNat_of_lt (by omega)]
      omega
    have p1 := own_pows ⟨k, by omega⟩
    have p2 := own_pows' ⟨k - 1, by omega⟩
    simp only [← e1, ← e2] at p1 p2
    have m1 := c_maskL vm (((1 : Int64) <<< (sh &&& 0x3f).toInt64) - (1 : Int64)) k (by omega) p1.2.1
    generalize vm &&& (((1 : Int64) <<< (sh &&& 0x3f).toInt64) - (1 : Int64)) = fr at *
    generalize hH : ((1 : Int64) <<< ((sh - (1 : Int32)) &&& 0x3f).toInt64) = H at *
    have u1 := c_lushr vm sh k p1.2.2 (by omega)
    have u2 := c_lushr (vm + H) sh k p1.2.2 (by omega)
    generalize ((vm.toUInt64 >>> (sh &&& 0x3f).toInt64.toUInt64).toInt64) = fl at *
    generalize (((vm + H).toUInt64 >>> (sh &&& 0x3f).toInt64.toUInt64).toInt64) = rs at *
    have a1 := c_ladd vm H
    have r1 := rng64 vm
    have r2 := rng64 (vm + H)
    have hP : (0 : Int) < 2 ^ (k - 1) := Int.pow_pos (by decide)
    have hP2 : ((2 ^ k : Nat) : Int) = 2 * 2 ^ (k - 1) := by
      obtain ⟨j, rfl⟩ : ∃ j, k = j + 1 := ⟨k - 1, by omega⟩
      simp [Int.pow_succ]; omega
    have hP3 : (2 : Int) ^ (k - 1) ≤ 4611686018427387904 := by
      have := Nat.pow_le_pow_right (show 2 > 0 by decide) (show k - 1 ≤ 62 by omega)
      have h : ((2 ^ (k - 1) : Nat) : Int) ≤ ((2 ^ 62 : Nat) : Int) := Int.ofNat_le.mpr this
      simpa using h
    rw [hP2] at u1 u2 m1
    generalize (2 : Int) ^ (k - 1) = P at *
    have v1 : vm.toInt % 18446744073709551616 = vm.toInt := by omega
    have v2 : (vm + H).toInt % 18446744073709551616 = vm.toInt + P := by omega
    rw [v1] at u1
    rw [v2, own_round _ _ hP] at u2
    have f1 : fl.toInt ≤ vm.toInt := by rw [u1]; exact Int.ediv_le_self _ (by omega)
    have f0 : 0 ≤ fl.toInt := by rw [u1]; exact Int.ediv_nonneg (by omega) (by omega)
    have f2 : fl.toInt * 2 ≤ vm.toInt := by
      have := Int.emod_add_mul_ediv vm.toInt (2 * P)
      have h3 := Int.emod_nonneg vm.toInt (show 2 * P ≠ 0 by omega)
      rw [← u1] at this
      have : P * fl.toInt ≥ fl.toInt := by
        have := Int.mul_le_mul_of_nonneg_right (show 1 ≤ P by omega) f0
        omega
      have : 2 * P * fl.toInt = 2 * (P * fl.toInt) := by rw [Int.mul_assoc]
      omega
    have a2 := c_ladd fl (1 : Int64)
    have r3 := rng64 (fl + (1 : Int64))
    apply Int64.toInt_inj.mp
    split
    · rename_i q
      rw [Int64.lt_iff_toInt_lt, p2, m1] at q
      rw [if_pos q] at u2
      omega
    · rename_i q
      rw [Int64.lt_iff_toInt_lt, p2, m1] at q
      rw [if_neg q] at u2
      omega
  · have hs' : (63 : Int32) < sh := by simp only [Int32.lt_iff_toInt_lt] at *; omega
    rw [if_pos hs', if_neg hs]
theorem own_law (q : Int64) (d : Int32) (hd : 0 ≤ d.toInt ∧ d.toInt < 1073741824) : own_spec4 ((q &&& (4611686018427387903 : Int64)) ||| (4611686018427387904 : Int64)) ((60 : Int32) - d) = own_spec5 ((q &&& (4611686018427387903 : Int64)) ||| (4611686018427387904 : Int64)) ((60 : Int32) - d) := by
  have h1 := c_maskL q (4611686018427387903 : Int64) 62 (by decide) (by decide)
  have h2 := c_orL' (q &&& (4611686018427387903 : Int64)) (4611686018427387904 : Int64) 62 (by decide) 4611686018427387904 (by decide)
  have h3 := rng64 ((q &&& (4611686018427387903 : Int64)) ||| (4611686018427387904 : Int64))
  have k1 : (4611686018427387904 : Int64).toInt = 4611686018427387904 := by decide
  have k2 : (60 : Int32).toInt = 60 := by decide
  have k3 : (62 : Int32).toInt = 62 := by decide
  have h4 := c_isub (60 : Int32) d
  have h5 := rng32 ((60 : Int32) - d)
  have h6 := c_isub (62 : Int32) ((60 : Int32) - d)
  have h7 := rng32 ((62 : Int32) - ((60 : Int32) - d))
  have h2' := h2 (by rw [k1]; decide) (by omega) (by omega)
  exact own_eq _ _ (by omega) (by omega)

theorem own_ef2 (m : MethodId) (o0 : Addr) : entryFrame m #[(.ref o0)] 1 = mkF m 0 #[.val (.ref o0)] [] := by first | (simp [entryFrame, mkF, argsToLocals, Value.category]; done) | rfl
theorem own_pn2 : plainName "java/lang/Record" = true := by first | (simp [plainName, overriddenIn]; done) | decide +kernel
theorem d2_0 : decode jdk_30_method_1_code 0 = .ok (.aload_n 0, 1) := by decide +kernel
theorem d2_1 : decode jdk_30_method_1_code 1 = .ok (.invokespecial 1, 3) := by decide +kernel
theorem d2_4 : decode jdk_30_method_1_code 4 = .ok (.return_, 1) := by decide +kernel
def own_Q2 (Z : State) (o0 : Addr) (h0 : Heap) (n0 : Nat) (v : Option Value) (h : Heap) (L : List Loc) : Prop := v = none ∧ Fr n0 L ∧ h = h0
set_option maxRecDepth 65536 in
set_option maxHeartbeats 40000000 in
theorem rm2 (l : Launch) (Z : State) (a0 : Array Value) (hw : ∀ d ∈ tables_1, d.before a0 Z = true) (ws : List Jvm.Cond) (o0 : Addr) (h0 : Heap) (n0 : Nat) (Z0 : n0 ≤ h0.size) :
    MetFree l (⟨"java/lang/Record", "<init>", "()V"⟩ : MethodName) (head1 (Jvm.Cond.code (⟨"java/lang/Record", "<init>", "()V"⟩ : MethodName) jdk_30_method_1_code 1 none :: ws) ({ frames := 1, cells := 0, slots := 0, locals := 12 } : Room)) (fun a U => a = #[(.ref o0)] ∧ Z.Warmed39 U.vm ∧ U.heap = h0) (fun _ _ _ _ _ => True) (fun _ U o U' => ∃ v L, o = .returned v ∧ own_Q2 Z o0 h0 n0 v U'.heap L ∧ FrameEnd U o U' L ({ frames := 1, cells := 0, slots := 0, locals := 12 } : Room).cells ({ frames := 1, cells := 0, slots := 0, locals := 12 } : Room).slots) := by
  refine own_metfree (Q := own_Q2 Z o0 h0 n0) (plainFor_of_name own_pn2) ?_
  intro p e s m below meth c s₁ X0 hx hby hml hret hown hnm hZ e0 G go fin
  have N0 := Fr.nil n0
  refine go _ (s₁.setTop (mkF m 0 #[.val (.ref o0)] [])) (fun t k => castTop (own_ef2 m o0) k) ?_
  refine go _ (s₁.setTop (mkF m 1 #[.val (.ref o0)] [(.ref o0)])) (fun t k => XS.aloadN X0.here hx rfl (hb hby d2_0) rfl rfl k) ?_
  obtain ⟨T1, X1, e1, st1⟩ := initO X0 hx hZ hown (hw _ (List.mem_of_getElem? (i := 15) rfl)) (hw _ (List.mem_of_getElem? (i := 16) rfl)) (hw _ (List.mem_of_getElem? (i := 17) rfl)) e0 (g := (mkF m 1 #[.val (.ref o0)] [(.ref o0)])) rfl (by rw [hml]; rfl) rfl (hb hby d2_1) (by decide) (W := 0) (by show 2 * 0 + _ ≤ _; exact Nat.le_of_eq rfl) (by decide)
  refine go _ (T1.setTop (mkF m 4 #[.val (.ref o0)] [])) st1 ?_
  refine fin (none) (mkF m 4 #[.val (.ref o0)] []) X1 (fun _ => rfl) (fun fs hr => X1.returnOut hx hret (hb hby d2_4) hr) ?_ (by decide) (by decide)
  try rw [e1]
  exact ⟨rfl, N0, rfl⟩
theorem own_ef1 (m : MethodId) (o0 : Addr) (q1 : Int64) (p2 : Int32) : entryFrame m #[(.ref o0), (.long q1), (.int p2)] 4 = mkF m 0 #[.val (.ref o0), .val (.long q1), .second, .val (.int p2)] [] := by first | (simp [entryFrame, mkF, argsToLocals, Value.category]; done) | rfl
theorem own_pn1 : plainName "com/example/lienwright/lienwright/LevelPayment$Binary" = true := by first | (simp [plainName, overriddenIn]; done) | decide +kernel
theorem d1_0 : decode prog_36_method_1_code 0 = .ok (.aload_n 0, 1) := by decide +kernel
theorem d1_1 : decode prog_36_method_1_code 1 = .ok (.invokespecial 3, 3) := by decide +kernel
theorem own_pd_0 : parseMethodDescriptor "()V" = some ⟨[], none⟩ := by decide +kernel
theorem d1_4 : decode prog_36_method_1_code 4 = .ok (.aload_n 0, 1) := by decide +kernel
theorem d1_5 : decode prog_36_method_1_code 5 = .ok (.lload_n 1, 1) := by decide +kernel
theorem d1_6 : decode prog_36_method_1_code 6 = .ok (.putfield 9, 3) := by decide +kernel
theorem d1_9 : decode prog_36_method_1_code 9 = .ok (.aload_n 0, 1) := by decide +kernel
theorem d1_10 : decode prog_36_method_1_code 10 = .ok (.iload_n 3, 1) := by decide +kernel
theorem d1_11 : decode prog_36_method_1_code 11 = .ok (.putfield 13, 3) := by decide +kernel
theorem d1_14 : decode prog_36_method_1_code 14 = .ok (.return_, 1) := by decide +kernel
def own_Q1 (Z : State) (o0 : Addr) (q1 : Int64) (p2 : Int32) (h0 : Heap) (n0 : Nat) (v : Option Value) (h : Heap) (L : List Loc) : Prop := v = none ∧ Fr n0 L ∧ Keep h0 h [o0] ∧ Exa Z h o0 "com/example/lienwright/lienwright/LevelPayment$Binary" ∧ Fld Z h o0 "com/example/lienwright/lienwright/LevelPayment$Binary" "mantissa" "J" (.long q1) ∧ Fld Z h o0 "com/example/lienwright/lienwright/LevelPayment$Binary" "exponent" "I" (.int p2)
set_option maxRecDepth 65536 in
set_option maxHeartbeats 40000000 in
theorem rm1 (l : Launch) (Z : State) (a0 : Array Value) (hw : ∀ d ∈ tables_1, d.before a0 Z = true) (ws : List Jvm.Cond) (o0 : Addr) (q1 : Int64) (p2 : Int32) (h0 : Heap) (n0 : Nat) (Z0 : n0 ≤ h0.size) (P0 : Fld Z h0 o0 "com/example/lienwright/lienwright/LevelPayment$Binary" "mantissa" "J" (.long (0 : Int64))) (P1 : Fld Z h0 o0 "com/example/lienwright/lienwright/LevelPayment$Binary" "exponent" "I" (.int (0 : Int32))) (PE : Exa Z h0 o0 "com/example/lienwright/lienwright/LevelPayment$Binary") (Pg : n0 ≤ o0) :
    MetFree l (⟨"com/example/lienwright/lienwright/LevelPayment$Binary", "<init>", "(JI)V"⟩ : MethodName) (head1 (Jvm.Cond.code (⟨"com/example/lienwright/lienwright/LevelPayment$Binary", "<init>", "(JI)V"⟩ : MethodName) prog_36_method_1_code 4 none :: ws) ({ frames := 2, cells := 0, slots := 0, locals := 24 } : Room)) (fun a U => a = #[(.ref o0), (.long q1), (.int p2)] ∧ Z.Warmed39 U.vm ∧ U.heap = h0) (fun _ _ _ _ _ => True) (fun _ U o U' => ∃ v L, o = .returned v ∧ own_Q1 Z o0 q1 p2 h0 n0 v U'.heap L ∧ FrameEnd U o U' L ({ frames := 2, cells := 0, slots := 0, locals := 24 } : Room).cells ({ frames := 2, cells := 0, slots := 0, locals := 24 } : Room).slots) := by
  refine own_metfree (Q := own_Q1 Z o0 q1 p2 h0 n0) (plainFor_of_name own_pn1) ?_
  intro p e s m below meth c s₁ X0 hx hby hml hret hown hnm hZ e0 G go fin
  have N0 := Fr.nil n0
  refine go _ (s₁.setTop (mkF m 0 #[.val (.ref o0), .val (.long q1), .second, .val (.int p2)] [])) (fun t k => castTop (own_ef1 m o0 q1 p2) k) ?_
  refine go _ (s₁.setTop (mkF m 1 #[.val (.ref o0), .val (.long q1), .second, .val (.int p2)] [(.ref o0)])) (fun t k => XS.aloadN X0.here hx rfl (hb hby d1_0) rfl rfl k) ?_
  obtain ⟨_, _, ⟨T1, L1, k1, n1⟩, -, X1, ⟨Lc1, hQ1, l1, y1, z1⟩, st1⟩ := X0.specialBack hx (y := (⟨"java/lang/Record", "<init>", "()V"⟩ : MethodName)) rfl hown (mvT hZ (hw _ (List.mem_of_getElem? (i := 10) rfl))) (mvT hZ (hw _ (List.mem_of_getElem? (i := 11) rfl))) (mvT hZ (hw _ (List.mem_of_getElem? (i := 14) rfl))) (by decide) (backOf (W := 0) (rm2 l Z a0 hw [] o0 h0 n0 Z0) hZ (hw _ (List.mem_of_getElem? (i := 14) rfl)) (hw _ (List.mem_of_getElem? (i := 13) rfl)) (by decide) (by decide)) (g := (mkF m 1 #[.val (.ref o0), .val (.long q1), .second, .val (.int p2)] [(.ref o0)])) rfl (by rw [hml]; rfl) (Steps.refl _) (a := o0) (argsL := []) (rest := []) (lenOf own_pd_0 rfl) rfl (by show 2 * 0 + _ ≤ _; exact Nat.le_of_eq rfl) (hb hby d1_1) (fun _ _ => ⟨rfl, e0, (by decide : 0 + 0 ≤ _), (by decide : 0 + 0 ≤ _)⟩)
  dsimp only [Pt.U, Pt.locs, Pt.cells, Pt.slots] at X1 l1 y1 z1 st1 hQ1
  subst l1 y1 z1
  obtain ⟨rfl, Nq1, eq1⟩ := hQ1
  have N1 := Fr.app N0 Nq1
  refine go _ (T1.setTop (mkF m 4 #[.val (.ref o0), .val (.long q1), .second, .val (.int p2)] [])) (fun t k => st1.trans k) ?_
  refine go _ (T1.setTop (mkF m 5 #[.val (.ref o0), .val (.long q1), .second, .val (.int p2)] [(.ref o0)])) (fun t k => XS.aloadN X1.here hx rfl (hb hby d1_4) rfl rfl k) ?_
  refine go _ (T1.setTop (mkF m 6 #[.val (.ref o0), .val (.long q1), .second, .val (.int p2)] [(.long q1), (.ref o0)])) (fun t k => XS.lloadN X1.here hx rfl (hb hby d1_5) rfl k) ?_
  obtain ⟨T2, h2, X2, e2, W2, st2⟩ := putF X1 hx hZ hown (host := "") (Or.inl (hw _ (List.mem_of_getElem? (i := 18) rfl))) Via.refl eq1 P0 PE (Or.inr ⟨(hw _ (List.mem_of_getElem? (i := 19) rfl)), rfl, hnm⟩) (hw _ (List.mem_of_getElem? (i := 5) rfl)) (ty := .long) (by decide) rfl rfl (g := (mkF m 6 #[.val (.ref o0), .val (.long q1), .second, .val (.int p2)] [(.long q1), (.ref o0)])) rfl rfl (hb hby d1_6)
  have Fw2 : Fld Z h2 o0 "com/example/lienwright/lienwright/LevelPayment$Binary" "mantissa" "J" (.long q1) := P0.same W2
  have N2 := Fr.snoc X2 N1 Pg
  refine go _ (T2.setTop (mkF m 9 #[.val (.ref o0), .val (.long q1), .second, .val (.int p2)] [])) st2 ?_
  refine go _ (T2.setTop (mkF m 10 #[.val (.ref o0), .val (.long q1), .second, .val (.int p2)] [(.ref o0)])) (fun t k => XS.aloadN X2.here hx rfl (hb hby d1_9) rfl rfl k) ?_
  refine go _ (T2.setTop (mkF m 11 #[.val (.ref o0), .val (.long q1), .second, .val (.int p2)] [(.int p2), (.ref o0)])) (fun t k => XS.iloadN X2.here hx rfl (hb hby d1_10) rfl k) ?_
  have F3_exponent_o0 : Fld Z h2 o0 "com/example/lienwright/lienwright/LevelPayment$Binary" "exponent" "I" (.int (0 : Int32)) := (P1.other W2 (Or.inr (slot_ne (Or.inr (hw _ (List.mem_of_getElem? (i := 21) rfl))) (Or.inr (hw _ (List.mem_of_getElem? (i := 19) rfl))) (by decide) (t := .int) (t' := .long) (by decide) (by decide))))
  have E4_o0 : Exa Z h2 o0 "com/example/lienwright/lienwright/LevelPayment$Binary" := (PE.wr W2)
  obtain ⟨T5, h5, X5, e5, W5, st5⟩ := putF X2 hx hZ hown (host := "") (Or.inl (hw _ (List.mem_of_getElem? (i := 20) rfl))) Via.refl e2 F3_exponent_o0 E4_o0 (Or.inr ⟨(hw _ (List.mem_of_getElem? (i := 21) rfl)), rfl, hnm⟩) (hw _ (List.mem_of_getElem? (i := 5) rfl)) (ty := .int) (by decide) rfl rfl (g := (mkF m 11 #[.val (.ref o0), .val (.long q1), .second, .val (.int p2)] [(.int p2), (.ref o0)])) rfl rfl (hb hby d1_11)
  have Fw5 : Fld Z h5 o0 "com/example/lienwright/lienwright/LevelPayment$Binary" "exponent" "I" (.int p2) := F3_exponent_o0.same W5
  have N5 := Fr.snoc X5 N2 Pg
  refine go _ (T5.setTop (mkF m 14 #[.val (.ref o0), .val (.long q1), .second, .val (.int p2)] [])) st5 ?_
  have E6_o0 : Exa Z h5 o0 "com/example/lienwright/lienwright/LevelPayment$Binary" := (E4_o0.wr W5)
  have F7_mantissa_o0 : Fld Z h5 o0 "com/example/lienwright/lienwright/LevelPayment$Binary" "mantissa" "J" (.long q1) := (Fw2.other W5 (Or.inr (slot_ne (Or.inr (hw _ (List.mem_of_getElem? (i := 19) rfl))) (Or.inr (hw _ (List.mem_of_getElem? (i := 21) rfl))) (by decide) (t := .long) (t' := .int) (by decide) (by decide))))
  refine fin (none) (mkF m 14 #[.val (.ref o0), .val (.long q1), .second, .val (.int p2)] []) X5 (fun _ => rfl) (fun fs hr => X5.returnOut hx hret (hb hby d1_14) hr) ?_ (by decide) (by decide)
  try rw [e5]
  exact ⟨rfl, N5, (((Keep.refl h0 [o0]).wr W2 (Or.inl (List.mem_of_getElem? (i := 0) rfl))).wr W5 (Or.inl (List.mem_of_getElem? (i := 0) rfl))), E6_o0, F7_mantissa_o0, Fw5⟩
theorem own_ef4 (m : MethodId) (o0 : Addr) : entryFrame m #[(.ref o0)] 4 = mkF m 0 #[.val (.ref o0), .unset, .unset, .unset] [] := by first | (simp [entryFrame, mkF, argsToLocals, Value.category]; done) | rfl
theorem own_pn4 : plainName "com/example/lienwright/lienwright/LevelPayment$Binary" = true := by first | (simp [plainName, overriddenIn]; done) | decide +kernel
theorem d4_0 : decode prog_36_method_12_code 0 = .ok (.bipush 62, 2) := by decide +kernel
theorem d4_2 : decode prog_36_method_12_code 2 = .ok (.aload_n 0, 1) := by decide +kernel
theorem d4_3 : decode prog_36_method_12_code 3 = .ok (.getfield 13, 3) := by decide +kernel
theorem d4_6 : decode prog_36_method_12_code 6 = .ok (.isub, 1) := by decide +kernel
theorem d4_7 : decode prog_36_method_12_code 7 = .ok (.istore_n 1, 1) := by decide +kernel
theorem d4_8 : decode prog_36_method_12_code 8 = .ok (.lconst 0, 1) := by decide +kernel
theorem d4_9 : decode prog_36_method_12_code 9 = .ok (.lstore_n 2, 1) := by decide +kernel
theorem d4_10 : decode prog_36_method_12_code 10 = .ok (.iload_n 1, 1) := by decide +kernel
theorem d4_11 : decode prog_36_method_12_code 11 = .ok (.bipush 63, 2) := by decide +kernel
theorem d4_13 : decode prog_36_method_12_code 13 = .ok (.if_icmp .gt 16, 3) := by decide +kernel
theorem d4_29 : decode prog_36_method_12_code 29 = .ok (.lload_n 2, 1) := by decide +kernel
theorem d4_30 : decode prog_36_method_12_code 30 = .ok (.lreturn, 1) := by decide +kernel
theorem d4_16 : decode prog_36_method_12_code 16 = .ok (.aload_n 0, 1) := by decide +kernel
theorem d4_17 : decode prog_36_method_12_code 17 = .ok (.getfield 9, 3) := by decide +kernel
theorem d4_20 : decode prog_36_method_12_code 20 = .ok (.lconst 1, 1) := by decide +kernel
theorem d4_21 : decode prog_36_method_12_code 21 = .ok (.iload_n 1, 1) := by decide +kernel
theorem d4_22 : decode prog_36_method_12_code 22 = .ok (.iconst 1, 1) := by decide +kernel
theorem d4_23 : decode prog_36_method_12_code 23 = .ok (.isub, 1) := by decide +kernel
theorem d4_24 : decode prog_36_method_12_code 24 = .ok (.lshl, 1) := by decide +kernel
theorem d4_25 : decode prog_36_method_12_code 25 = .ok (.ladd, 1) := by decide +kernel
theorem d4_26 : decode prog_36_method_12_code 26 = .ok (.iload_n 1, 1) := by decide +kernel
theorem d4_27 : decode prog_36_method_12_code 27 = .ok (.lushr, 1) := by decide +kernel
theorem d4_28 : decode prog_36_method_12_code 28 = .ok (.lstore_n 2, 1) := by decide +kernel
def own_Q4 (Z : State) (o0 : Addr) (vm : Int64) (ve : Int32) (h0 : Heap) (n0 : Nat) (v : Option Value) (h : Heap) (L : List Loc) : Prop := v = some (.long (own_spec4 vm ve)) ∧ Fr n0 L ∧ h = h0
set_option maxRecDepth 65536 in
set_option maxHeartbeats 40000000 in
theorem rm4 (l : Launch) (Z : State) (a0 : Array Value) (hw : ∀ d ∈ tables_1, d.before a0 Z = true) (ws : List Jvm.Cond) (o0 : Addr) (vm : Int64) (ve : Int32) (h0 : Heap) (n0 : Nat) (Z0 : n0 ≤ h0.size) (P0 : Fld Z h0 o0 "com/example/lienwright/lienwright/LevelPayment$Binary" "mantissa" "J" (.long vm)) (P1 : Fld Z h0 o0 "com/example/lienwright/lienwright/LevelPayment$Binary" "exponent" "I" (.int ve)) :
    MetFree l (⟨"com/example/lienwright/lienwright/LevelPayment$Binary", "roundedHalfUp", "()J"⟩ : MethodName) (head1 (Jvm.Cond.code (⟨"com/example/lienwright/lienwright/LevelPayment$Binary", "roundedHalfUp", "()J"⟩ : MethodName) prog_36_method_12_code 4 (some .long) :: ws) ({ frames := 0, cells := 0, slots := 0, locals := 0 } : Room)) (fun a U => a = #[(.ref o0)] ∧ Z.Warmed39 U.vm ∧ U.heap = h0) (fun _ _ _ _ _ => True) (fun _ U o U' => ∃ v L, o = .returned v ∧ own_Q4 Z o0 vm ve h0 n0 v U'.heap L ∧ FrameEnd U o U' L ({ frames := 0, cells := 0, slots := 0, locals := 0 } : Room).cells ({ frames := 0, cells := 0, slots := 0, locals := 0 } : Room).slots) := by
  refine own_metfree (Q := own_Q4 Z o0 vm ve h0 n0) (plainFor_of_name own_pn4) ?_
  intro p e s m below meth c s₁ X0 hx hby hml hret hown hnm hZ e0 G go fin
  have N0 := Fr.nil n0
  refine go _ (s₁.setTop (mkF m 0 #[.val (.ref o0), .unset, .unset, .unset] [])) (fun t k => castTop (own_ef4 m o0) k) ?_
  refine go _ (s₁.setTop (mkF m 2 #[.val (.ref o0), .unset, .unset, .unset] [(.int (62 : Int32))])) (fun t k => XS.bipush X0.here hx rfl (hb hby d4_0) k) ?_
  refine go _ (s₁.setTop (mkF m 3 #[.val (.ref o0), .unset, .unset, .unset] [(.ref o0), (.int (62 : Int32))])) (fun t k => XS.aloadN X0.here hx rfl (hb hby d4_2) rfl rfl k) ?_
  obtain ⟨T1, X1, e1, st1⟩ := getF X0 hx hZ hown (host := "") (Or.inl (hw _ (List.mem_of_getElem? (i := 20) rfl))) Via.refl e0 P1 (g := (mkF m 3 #[.val (.ref o0), .unset, .unset, .unset] [(.ref o0), (.int (62 : Int32))])) rfl rfl (hb hby d4_3)
  refine go _ (T1.setTop (mkF m 6 #[.val (.ref o0), .unset, .unset, .unset] [(.int ve), (.int (62 : Int32))])) st1 ?_
  refine go _ (T1.setTop (mkF m 7 #[.val (.ref o0), .unset, .unset, .unset] [(.int ((62 : Int32) - ve))])) (fun t k => XS.isub X1.here hx rfl (hb hby d4_6) rfl k) ?_
  refine go _ (T1.setTop (mkF m 8 #[.val (.ref o0), .val (.int ((62 : Int32) - ve)), .unset, .unset] [])) (fun t k => XS.istoreN X1.here hx rfl (hb hby d4_7) rfl (l' := #[.val (.ref o0), .val (.int ((62 : Int32) - ve)), .unset, .unset]) rfl k) ?_
  refine go _ (T1.setTop (mkF m 9 #[.val (.ref o0), .val (.int ((62 : Int32) - ve)), .unset, .unset] [(.long (0 : Int64))])) (fun t k => XS.lconst X1.here hx rfl (hb hby d4_8) k) ?_
  refine go _ (T1.setTop (mkF m 10 #[.val (.ref o0), .val (.int ((62 : Int32) - ve)), .val (.long (0 : Int64)), .second] [])) (fun t k => XS.lstoreN X1.here hx rfl (hb hby d4_9) rfl (l' := #[.val (.ref o0), .val (.int ((62 : Int32) - ve)), .val (.long (0 : Int64)), .second]) rfl k) ?_
  refine go _ (T1.setTop (mkF m 11 #[.val (.ref o0), .val (.int ((62 : Int32) - ve)), .val (.long (0 : Int64)), .second] [(.int ((62 : Int32) - ve))])) (fun t k => XS.iloadN X1.here hx rfl (hb hby d4_10) rfl k) ?_
  refine go _ (T1.setTop (mkF m 13 #[.val (.ref o0), .val (.int ((62 : Int32) - ve)), .val (.long (0 : Int64)), .second] [(.int (63 : Int32)), (.int ((62 : Int32) - ve))])) (fun t k => XS.bipush X1.here hx rfl (hb hby d4_11) k) ?_
  rcases Decidable.em ((63 : Int32) < ((62 : Int32) - ve)) with hc13 | hc13
  · refine go _ (T1.setTop (mkF m 29 #[.val (.ref o0), .val (.int ((62 : Int32) - ve)), .val (.long (0 : Int64)), .second] [])) (fun t k => XS.icmpYes X1.here hx rfl (pc0 := 13) (pc' := 29) rfl (hb hby d4_13) rfl (tlt hc13).2.2.1 (by decide) (by decide) k) ?_
    refine go _ (T1.setTop (mkF m 30 #[.val (.ref o0), .val (.int ((62 : Int32) - ve)), .val (.long (0 : Int64)), .second] [(.long (0 : Int64))])) (fun t k => XS.lloadN X1.here hx rfl (hb hby d4_29) rfl k) ?_
    refine fin (some (.long (0 : Int64))) (mkF m 30 #[.val (.ref o0), .val (.int ((62 : Int32) - ve)), .val (.long (0 : Int64)), .second] [(.long (0 : Int64))]) X1 (fun h => by cases h) (fun fs hr => retOut X1 hx (t := .long) hret rfl (Or.inr (Or.inl ⟨rfl, rfl, _, rfl⟩)) (hb hby d4_30) hr) ?_ (by decide) (by decide)
    try rw [e1]
    exact ⟨by rw [own_spec4, if_pos hc13], N0, rfl⟩
  · refine go _ (T1.setTop (mkF m 16 #[.val (.ref o0), .val (.int ((62 : Int32) - ve)), .val (.long (0 : Int64)), .second] [])) (fun t k => XS.icmpNo X1.here hx rfl (hb hby d4_13) rfl (flt hc13).2.2.1 k) ?_
    refine go _ (T1.setTop (mkF m 17 #[.val (.ref o0), .val (.int ((62 : Int32) - ve)), .val (.long (0 : Int64)), .second] [(.ref o0)])) (fun t k => XS.aloadN X1.here hx rfl (hb hby d4_16) rfl rfl k) ?_
    obtain ⟨T2, X2, e2, st2⟩ := getF X1 hx hZ hown (host := "") (Or.inl (hw _ (List.mem_of_getElem? (i := 18) rfl))) Via.refl e1 P0 (g := (mkF m 17 #[.val (.ref o0), .val (.int ((62 : Int32) - ve)), .val (.long (0 : Int64)), .second] [(.ref o0)])) rfl rfl (hb hby d4_17)
    refine go _ (T2.setTop (mkF m 20 #[.val (.ref o0), .val (.int ((62 : Int32) - ve)), .val (.long (0 : Int64)), .second] [(.long vm)])) st2 ?_
    refine go _ (T2.setTop (mkF m 21 #[.val (.ref o0), .val (.int ((62 : Int32) - ve)), .val (.long (0 : Int64)), .second] [(.long (1 : Int64)), (.long vm)])) (fun t k => XS.lconst X2.here hx rfl (hb hby d4_20) k) ?_
    refine go _ (T2.setTop (mkF m 22 #[.val (.ref o0), .val (.int ((62 : Int32) - ve)), .val (.long (0 : Int64)), .second] [(.int ((62 : Int32) - ve)), (.long (1 : Int64)), (.long vm)])) (fun t k => XS.iloadN X2.here hx rfl (hb hby d4_21) rfl k) ?_
    refine go _ (T2.setTop (mkF m 23 #[.val (.ref o0), .val (.int ((62 : Int32) - ve)), .val (.long (0 : Int64)), .second] [(.int (1 : Int32)), (.int ((62 : Int32) - ve)), (.long (1 : Int64)), (.long vm)])) (fun t k => XS.iconst X2.here hx rfl (hb hby d4_22) k) ?_
    refine go _ (T2.setTop (mkF m 24 #[.val (.ref o0), .val (.int ((62 : Int32) - ve)), .val (.long (0 : Int64)), .second] [(.int (((62 : Int32) - ve) - (1 : Int32))), (.long (1 : Int64)), (.long vm)])) (fun t k => XS.isub X2.here hx rfl (hb hby d4_23) rfl k) ?_
    refine go _ (T2.setTop (mkF m 25 #[.val (.ref o0), .val (.int ((62 : Int32) - ve)), .val (.long (0 : Int64)), .second] [(.long ((1 : Int64) <<< ((((62 : Int32) - ve) - (1 : Int32)) &&& 0x3f).toInt64)), (.long vm)])) (fun t k => XS.lshl X2.here hx rfl (hb hby d4_24) rfl k) ?_
    refine go _ (T2.setTop (mkF m 26 #[.val (.ref o0), .val (.int ((62 : Int32) - ve)), .val (.long (0 : Int64)), .second] [(.long (vm + ((1 : Int64) <<< ((((62 : Int32) - ve) - (1 : Int32)) &&& 0x3f).toInt64)))])) (fun t k => XS.ladd X2.here hx rfl (hb hby d4_25) rfl k) ?_
    refine go _ (T2.setTop (mkF m 27 #[.val (.ref o0), .val (.int ((62 : Int32) - ve)), .val (.long (0 : Int64)), .second] [(.int ((62 : Int32) - ve)), (.long (vm + ((1 : Int64) <<< ((((62 : Int32) - ve) - (1 : Int32)) &&& 0x3f).toInt64)))])) (fun t k => XS.iloadN X2.here hx rfl (hb hby d4_26) rfl k) ?_
    refine go _ (T2.setTop (mkF m 28 #[.val (.ref o0), .val (.int ((62 : Int32) - ve)), .val (.long (0 : Int64)), .second] [(.long (((vm + ((1 : Int64) <<< ((((62 : Int32) - ve) - (1 : Int32)) &&& 0x3f).toInt64)).toUInt64 >>> (((62 : Int32) - ve) &&& 0x3f).toInt64.toUInt64).toInt64))])) (fun t k => XS.lushr X2.here hx rfl (hb hby d4_27) rfl k) ?_
    refine go _ (T2.setTop (mkF m 29 #[.val (.ref o0), .val (.int ((62 : Int32) - ve)), .val (.long (((vm + ((1 : Int64) <<< ((((62 : Int32) - ve) - (1 : Int32)) &&& 0x3f).toInt64)).toUInt64 >>> (((62 : Int32) - ve) &&& 0x3f).toInt64.toUInt64).toInt64)), .second] [])) (fun t k => XS.lstoreN X2.here hx rfl (hb hby d4_28) rfl (l' := #[.val (.ref o0), .val (.int ((62 : Int32) - ve)), .val (.long (((vm + ((1 : Int64) <<< ((((62 : Int32) - ve) - (1 : Int32)) &&& 0x3f).toInt64)).toUInt64 >>> (((62 : Int32) - ve) &&& 0x3f).toInt64.toUInt64).toInt64)), .second]) rfl k) ?_
    refine go _ (T2.setTop (mkF m 30 #[.val (.ref o0), .val (.int ((62 : Int32) - ve)), .val (.long (((vm + ((1 : Int64) <<< ((((62 : Int32) - ve) - (1 : Int32)) &&& 0x3f).toInt64)).toUInt64 >>> (((62 : Int32) - ve) &&& 0x3f).toInt64.toUInt64).toInt64)), .second] [(.long (((vm + ((1 : Int64) <<< ((((62 : Int32) - ve) - (1 : Int32)) &&& 0x3f).toInt64)).toUInt64 >>> (((62 : Int32) - ve) &&& 0x3f).toInt64.toUInt64).toInt64))])) (fun t k => XS.lloadN X2.here hx rfl (hb hby d4_29) rfl k) ?_
    refine fin (some (.long (((vm + ((1 : Int64) <<< ((((62 : Int32) - ve) - (1 : Int32)) &&& 0x3f).toInt64)).toUInt64 >>> (((62 : Int32) - ve) &&& 0x3f).toInt64.toUInt64).toInt64))) (mkF m 30 #[.val (.ref o0), .val (.int ((62 : Int32) - ve)), .val (.long (((vm + ((1 : Int64) <<< ((((62 : Int32) - ve) - (1 : Int32)) &&& 0x3f).toInt64)).toUInt64 >>> (((62 : Int32) - ve) &&& 0x3f).toInt64.toUInt64).toInt64)), .second] [(.long (((vm + ((1 : Int64) <<< ((((62 : Int32) - ve) - (1 : Int32)) &&& 0x3f).toInt64)).toUInt64 >>> (((62 : Int32) - ve) &&& 0x3f).toInt64.toUInt64).toInt64))]) X2 (fun h => by cases h) (fun fs hr => retOut X2 hx (t := .long) hret rfl (Or.inr (Or.inl ⟨rfl, rfl, _, rfl⟩)) (hb hby d4_30) hr) ?_ (by decide) (by decide)
    try rw [e2]
    exact ⟨by rw [own_spec4, if_neg hc13], N0, rfl⟩
theorem own_ef5 (m : MethodId) (q0 : Int64) (p1 : Int32) : entryFrame m #[(.long q0), (.int p1)] 12 = mkF m 0 #[.val (.long q0), .second, .val (.int p1), .unset, .unset, .unset, .unset, .unset, .unset, .unset, .unset, .unset] [] := by first | (simp [entryFrame, mkF, argsToLocals, Value.category]; done) | rfl
theorem own_pn5 : plainName "com/example/lienwright/lienwright/BinaryRoundedHalfUpPinLaw" = true := by first | (simp [plainName, overriddenIn]; done) | decide +kernel
theorem d5_0 : decode method_3_code 0 = .ok (.bipush 62, 2) := by decide +kernel
theorem d5_2 : decode method_3_code 2 = .ok (.iload_n 2, 1) := by decide +kernel
theorem d5_3 : decode method_3_code 3 = .ok (.isub, 1) := by decide +kernel
theorem d5_4 : decode method_3_code 4 = .ok (.istore_n 3, 1) := by decide +kernel
theorem d5_5 : decode method_3_code 5 = .ok (.lconst 0, 1) := by decide +kernel
theorem d5_6 : decode method_3_code 6 = .ok (.lstore 4, 2) := by decide +kernel
theorem d5_8 : decode method_3_code 8 = .ok (.iload_n 3, 1) := by decide +kernel
theorem d5_9 : decode method_3_code 9 = .ok (.bipush 64, 2) := by decide +kernel
theorem d5_11 : decode method_3_code 11 = .ok (.if_icmp .ge 42, 3) := by decide +kernel
theorem d5_14 : decode method_3_code 14 = .ok (.lload_n 0, 1) := by decide +kernel
theorem d5_15 : decode method_3_code 15 = .ok (.iload_n 3, 1) := by decide +kernel
theorem d5_16 : decode method_3_code 16 = .ok (.lushr, 1) := by decide +kernel
theorem d5_17 : decode method_3_code 17 = .ok (.lstore 6, 2) := by decide +kernel
theorem d5_19 : decode method_3_code 19 = .ok (.lload_n 0, 1) := by decide +kernel
theorem d5_20 : decode method_3_code 20 = .ok (.lconst 1, 1) := by decide +kernel
theorem d5_21 : decode method_3_code 21 = .ok (.iload_n 3, 1) := by decide +kernel
theorem d5_22 : decode method_3_code 22 = .ok (.lshl, 1) := by decide +kernel
theorem d5_23 : decode method_3_code 23 = .ok (.lconst 1, 1) := by decide +kernel
theorem d5_24 : decode method_3_code 24 = .ok (.lsub, 1) := by decide +kernel
theorem d5_25 : decode method_3_code 25 = .ok (.land, 1) := by decide +kernel
theorem d5_26 : decode method_3_code 26 = .ok (.lstore 8, 2) := by decide +kernel
theorem d5_28 : decode method_3_code 28 = .ok (.lconst 1, 1) := by decide +kernel
theorem d5_29 : decode method_3_code 29 = .ok (.iload_n 3, 1) := by decide +kernel
theorem d5_30 : decode method_3_code 30 = .ok (.iconst 1, 1) := by decide +kernel
theorem d5_31 : decode method_3_code 31 = .ok (.isub, 1) := by decide +kernel
theorem d5_32 : decode method_3_code 32 = .ok (.lshl, 1) := by decide +kernel
theorem d5_33 : decode method_3_code 33 = .ok (.lstore 10, 2) := by decide +kernel
theorem d5_35 : decode method_3_code 35 = .ok (.lload 6, 2) := by decide +kernel
theorem d5_37 : decode method_3_code 37 = .ok (.lstore 4, 2) := by decide +kernel
theorem d5_39 : decode method_3_code 39 = .ok (.lload 8, 2) := by decide +kernel
theorem d5_41 : decode method_3_code 41 = .ok (.lload 10, 2) := by decide +kernel
theorem d5_43 : decode method_3_code 43 = .ok (.lcmp, 1) := by decide +kernel
theorem d5_44 : decode method_3_code 44 = .ok (.ifCond .lt 9, 3) := by decide +kernel
theorem d5_53 : decode method_3_code 53 = .ok (.lload 4, 2) := by decide +kernel
theorem d5_55 : decode method_3_code 55 = .ok (.lreturn, 1) := by decide +kernel
theorem d5_47 : decode method_3_code 47 = .ok (.lload 6, 2) := by decide +kernel
theorem d5_49 : decode method_3_code 49 = .ok (.lconst 1, 1) := by decide +kernel
theorem d5_50 : decode method_3_code 50 = .ok (.ladd, 1) := by decide +kernel
theorem d5_51 : decode method_3_code 51 = .ok (.lstore 4, 2) := by decide +kernel
def own_Q5 (Z : State) (q0 : Int64) (p1 : Int32) (h0 : Heap) (n0 : Nat) (v : Option Value) (h : Heap) (L : List Loc) : Prop := v = some (.long (own_spec5 q0 p1)) ∧ Fr n0 L ∧ h = h0
set_option maxRecDepth 65536 in
set_option maxHeartbeats 40000000 in
theorem rm5 (l : Launch) (Z : State) (a0 : Array Value) (hw : ∀ d ∈ tables_1, d.before a0 Z = true) (ws : List Jvm.Cond) (q0 : Int64) (p1 : Int32) (h0 : Heap) (n0 : Nat) (Z0 : n0 ≤ h0.size) :
    MetFree l (⟨"com/example/lienwright/lienwright/BinaryRoundedHalfUpPinLaw", "expected", "(JI)J"⟩ : MethodName) (head1 (Jvm.Cond.code (⟨"com/example/lienwright/lienwright/BinaryRoundedHalfUpPinLaw", "expected", "(JI)J"⟩ : MethodName) method_3_code 12 (some .long) :: ws) ({ frames := 0, cells := 0, slots := 0, locals := 0 } : Room)) (fun a U => a = #[(.long q0), (.int p1)] ∧ Z.Warmed39 U.vm ∧ U.heap = h0) (fun _ _ _ _ _ => True) (fun _ U o U' => ∃ v L, o = .returned v ∧ own_Q5 Z q0 p1 h0 n0 v U'.heap L ∧ FrameEnd U o U' L ({ frames := 0, cells := 0, slots := 0, locals := 0 } : Room).cells ({ frames := 0, cells := 0, slots := 0, locals := 0 } : Room).slots) := by
  refine own_metfree (Q := own_Q5 Z q0 p1 h0 n0) (plainFor_of_name own_pn5) ?_
  intro p e s m below meth c s₁ X0 hx hby hml hret hown hnm hZ e0 G go fin
  have N0 := Fr.nil n0
  refine go _ (s₁.setTop (mkF m 0 #[.val (.long q0), .second, .val (.int p1), .unset, .unset, .unset, .unset, .unset, .unset, .unset, .unset, .unset] [])) (fun t k => castTop (own_ef5 m q0 p1) k) ?_
  refine go _ (s₁.setTop (mkF m 2 #[.val (.long q0), .second, .val (.int p1), .unset, .unset, .unset, .unset, .unset, .unset, .unset, .unset, .unset] [(.int (62 : Int32))])) (fun t k => XS.bipush X0.here hx rfl (hb hby d5_0) k) ?_
  refine go _ (s₁.setTop (mkF m 3 #[.val (.long q0), .second, .val (.int p1), .unset, .unset, .unset, .unset, .unset, .unset, .unset, .unset, .unset] [(.int p1), (.int (62 : Int32))])) (fun t k => XS.iloadN X0.here hx rfl (hb hby d5_2) rfl k) ?_
  refine go _ (s₁.setTop (mkF m 4 #[.val (.long q0), .second, .val (.int p1), .unset, .unset, .unset, .unset, .unset, .unset, .unset, .unset, .unset] [(.int ((62 : Int32) - p1))])) (fun t k => XS.isub X0.here hx rfl (hb hby d5_3) rfl k) ?_
  refine go _ (s₁.setTop (mkF m 5 #[.val (.long q0), .second, .val (.int p1), .val (.int ((62 : Int32) - p1)), .unset, .unset, .unset, .unset, .unset, .unset, .unset, .unset] [])) (fun t k => XS.istoreN X0.here hx rfl (hb hby d5_4) rfl (l' := #[.val (.long q0), .second, .val (.int p1), .val (.int ((62 : Int32) - p1)), .unset, .unset, .unset, .unset, .unset, .unset, .unset, .unset]) rfl k) ?_
  refine go _ (s₁.setTop (mkF m 6 #[.val (.long q0), .second, .val (.int p1), .val (.int ((62 : Int32) - p1)), .unset, .unset, .unset, .unset, .unset, .unset, .unset, .unset] [(.long (0 : Int64))])) (fun t k => XS.lconst X0.here hx rfl (hb hby d5_5) k) ?_
  refine go _ (s₁.setTop (mkF m 8 #[.val (.long q0), .second, .val (.int p1), .val (.int ((62 : Int32) - p1)), .val (.long (0 : Int64)), .second, .unset, .unset, .unset, .unset, .unset, .unset] [])) (fun t k => XS.lstore X0.here hx rfl (hb hby d5_6) rfl (l' := #[.val (.long q0), .second, .val (.int p1), .val (.int ((62 : Int32) - p1)), .val (.long (0 : Int64)), .second, .unset, .unset, .unset, .unset, .unset, .unset]) rfl k) ?_
  refine go _ (s₁.setTop (mkF m 9 #[.val (.long q0), .second, .val (.int p1), .val (.int ((62 : Int32) - p1)), .val (.long (0 : Int64)), .second, .unset, .unset, .unset, .unset, .unset, .unset] [(.int ((62 : Int32) - p1))])) (fun t k => XS.iloadN X0.here hx rfl (hb hby d5_8) rfl k) ?_
  refine go _ (s₁.setTop (mkF m 11 #[.val (.long q0), .second, .val (.int p1), .val (.int ((62 : Int32) - p1)), .val (.long (0 : Int64)), .second, .unset, .unset, .unset, .unset, .unset, .unset] [(.int (64 : Int32)), (.int ((62 : Int32) - p1))])) (fun t k => XS.bipush X0.here hx rfl (hb hby d5_9) k) ?_
  rcases Decidable.em (((62 : Int32) - p1) < (64 : Int32)) with hc11 | hc11
  · refine go _ (s₁.setTop (mkF m 14 #[.val (.long q0), .second, .val (.int p1), .val (.int ((62 : Int32) - p1)), .val (.long (0 : Int64)), .second, .unset, .unset, .unset, .unset, .unset, .unset] [])) (fun t k => XS.icmpNo X0.here hx rfl (hb hby d5_11) rfl (tlt hc11).2.1 k) ?_
    refine go _ (s₁.setTop (mkF m 15 #[.val (.long q0), .second, .val (.int p1), .val (.int ((62 : Int32) - p1)), .val (.long (0 : Int64)), .second, .unset, .unset, .unset, .unset, .unset, .unset] [(.long q0)])) (fun t k => XS.lloadN X0.here hx rfl (hb hby d5_14) rfl k) ?_
    refine go _ (s₁.setTop (mkF m 16 #[.val (.long q0), .second, .val (.int p1), .val (.int ((62 : Int32) - p1)), .val (.long (0 : Int64)), .second, .unset, .unset, .unset, .unset, .unset, .unset] [(.int ((62 : Int32) - p1)), (.long q0)])) (fun t k => XS.iloadN X0.here hx rfl (hb hby d5_15) rfl k) ?_
    refine go _ (s₁.setTop (mkF m 17 #[.val (.long q0), .second, .val (.int p1), .val (.int ((62 : Int32) - p1)), .val (.long (0 : Int64)), .second, .unset, .unset, .unset, .unset, .unset, .unset] [(.long ((q0.toUInt64 >>> (((62 : Int32) - p1) &&& 0x3f).toInt64.toUInt64).toInt64))])) (fun t k => XS.lushr X0.here hx rfl (hb hby d5_16) rfl k) ?_
    refine go _ (s₁.setTop (mkF m 19 #[.val (.long q0), .second, .val (.int p1), .val (.int ((62 : Int32) - p1)), .val (.long (0 : Int64)), .second, .val (.long ((q0.toUInt64 >>> (((62 : Int32) - p1) &&& 0x3f).toInt64.toUInt64).toInt64)), .second, .unset, .unset, .unset, .unset] [])) (fun t k => XS.lstore X0.here hx rfl (hb hby d5_17) rfl (l' := #[.val (.long q0), .second, .val (.int p1), .val (.int ((62 : Int32) - p1)), .val (.long (0 : Int64)), .second, .val (.long ((q0.toUInt64 >>> (((62 : Int32) - p1) &&& 0x3f).toInt64.toUInt64).toInt64)), .second, .unset, .unset, .unset, .unset]) rfl k) ?_
    refine go _ (s₁.setTop (mkF m 20 #[.val (.long q0), .second, .val (.int p1), .val (.int ((62 : Int32) - p1)), .val (.long (0 : Int64)), .second, .val (.long ((q0.toUInt64 >>> (((62 : Int32) - p1) &&& 0x3f).toInt64.toUInt64).toInt64)), .second, .unset, .unset, .unset, .unset] [(.long q0)])) (fun t k => XS.lloadN X0.here hx rfl (hb hby d5_19) rfl k) ?_
    refine go _ (s₁.setTop (mkF m 21 #[.val (.long q0), .second, .val (.int p1), .val (.int ((62 : Int32) - p1)), .val (.long (0 : Int64)), .second, .val (.long ((q0.toUInt64 >>> (((62 : Int32) - p1) &&& 0x3f).toInt64.toUInt64).toInt64)), .second, .unset, .unset, .unset, .unset] [(.long (1 : Int64)), (.long q0)])) (fun t k => XS.lconst X0.here hx rfl (hb hby d5_20) k) ?_
    refine go _ (s₁.setTop (mkF m 22 #[.val (.long q0), .second, .val (.int p1), .val (.int ((62 : Int32) - p1)), .val (.long (0 : Int64)), .second, .val (.long ((q0.toUInt64 >>> (((62 : Int32) - p1) &&& 0x3f).toInt64.toUInt64).toInt64)), .second, .unset, .unset, .unset, .unset] [(.int ((62 : Int32) - p1)), (.long (1 : Int64)), (.long q0)])) (fun t k => XS.iloadN X0.here hx rfl (hb hby d5_21) rfl k) ?_
    refine go _ (s₁.setTop (mkF m 23 #[.val (.long q0), .second, .val (.int p1), .val (.int ((62 : Int32) - p1)), .val (.long (0 : Int64)), .second, .val (.long ((q0.toUInt64 >>> (((62 : Int32) - p1) &&& 0x3f).toInt64.toUInt64).toInt64)), .second, .unset, .unset, .unset, .unset] [(.long ((1 : Int64) <<< (((62 : Int32) - p1) &&& 0x3f).toInt64)), (.long q0)])) (fun t k => XS.lshl X0.here hx rfl (hb hby d5_22) rfl k) ?_
    refine go _ (s₁.setTop (mkF m 24 #[.val (.long q0), .second, .val (.int p1), .val (.int ((62 : Int32) - p1)), .val (.long (0 : Int64)), .second, .val (.long ((q0.toUInt64 >>> (((62 : Int32) - p1) &&& 0x3f).toInt64.toUInt64).toInt64)), .second, .unset, .unset, .unset, .unset] [(.long (1 : Int64)), (.long ((1 : Int64) <<< (((62 : Int32) - p1) &&& 0x3f).toInt64)), (.long q0)])) (fun t k => XS.lconst X0.here hx rfl (hb hby d5_23) k) ?_
    refine go _ (s₁.setTop (mkF m 25 #[.val (.long q0), .second, .val (.int p1), .val (.int ((62 : Int32) - p1)), .val (.long (0 : Int64)), .second, .val (.long ((q0.toUInt64 >>> (((62 : Int32) - p1) &&& 0x3f).toInt64.toUInt64).toInt64)), .second, .unset, .unset, .unset, .unset] [(.long (((1 : Int64) <<< (((62 : Int32) - p1) &&& 0x3f).toInt64) - (1 : Int64))), (.long q0)])) (fun t k => XS.lsub X0.here hx rfl (hb hby d5_24) rfl k) ?_
    refine go _ (s₁.setTop (mkF m 26 #[.val (.long q0), .second, .val (.int p1), .val (.int ((62 : Int32) - p1)), .val (.long (0 : Int64)), .second, .val (.long ((q0.toUInt64 >>> (((62 : Int32) - p1) &&& 0x3f).toInt64.toUInt64).toInt64)), .second, .unset, .unset, .unset, .unset] [(.long (q0 &&& (((1 : Int64) <<< (((62 : Int32) - p1) &&& 0x3f).toInt64) - (1 : Int64))))])) (fun t k => XS.land X0.here hx rfl (hb hby d5_25) rfl k) ?_
    refine go _ (s₁.setTop (mkF m 28 #[.val (.long q0), .second, .val (.int p1), .val (.int ((62 : Int32) - p1)), .val (.long (0 : Int64)), .second, .val (.long ((q0.toUInt64 >>> (((62 : Int32) - p1) &&& 0x3f).toInt64.toUInt64).toInt64)), .second, .val (.long (q0 &&& (((1 : Int64) <<< (((62 : Int32) - p1) &&& 0x3f).toInt64) - (1 : Int64)))), .second, .unset, .unset] [])) (fun t k => XS.lstore X0.here hx rfl (hb hby d5_26) rfl (l' := #[.val (.long q0), .second, .val (.int p1), .val (.int ((62 : Int32) - p1)), .val (.long (0 : Int64)), .second, .val (.long ((q0.toUInt64 >>> (((62 : Int32) - p1) &&& 0x3f).toInt64.toUInt64).toInt64)), .second, .val (.long (q0 &&& (((1 : Int64) <<< (((62 : Int32) - p1) &&& 0x3f).toInt64) - (1 : Int64)))), .second, .unset, .unset]) rfl k) ?_
    refine go _ (s₁.setTop (mkF m 29 #[.val (.long q0), .second, .val (.int p1), .val (.int ((62 : Int32) - p1)), .val (.long (0 : Int64)), .second, .val (.long ((q0.toUInt64 >>> (((62 : Int32) - p1) &&& 0x3f).toInt64.toUInt64).toInt64)), .second, .val (.long (q0 &&& (((1 : Int64) <<< (((62 : Int32) - p1) &&& 0x3f).toInt64) - (1 : Int64)))), .second, .unset, .unset] [(.long (1 : Int64))])) (fun t k => XS.lconst X0.here hx rfl (hb hby d5_28) k) ?_
    refine go _ (s₁.setTop (mkF m 30 #[.val (.long q0), .second, .val (.int p1), .val (.int ((62 : Int32) - p1)), .val (.long (0 : Int64)), .second, .val (.long ((q0.toUInt64 >>> (((62 : Int32) - p1) &&& 0x3f).toInt64.toUInt64).toInt64)), .second, .val (.long (q0 &&& (((1 : Int64) <<< (((62 : Int32) - p1) &&& 0x3f).toInt64) - (1 : Int64)))), .second, .unset, .unset] [(.int ((62 : Int32) - p1)), (.long (1 : Int64))])) (fun t k => XS.iloadN X0.here hx rfl (hb hby d5_29) rfl k) ?_
    refine go _ (s₁.setTop (mkF m 31 #[.val (.long q0), .second, .val (.int p1), .val (.int ((62 : Int32) - p1)), .val (.long (0 : Int64)), .second, .val (.long ((q0.toUInt64 >>> (((62 : Int32) - p1) &&& 0x3f).toInt64.toUInt64).toInt64)), .second, .val (.long (q0 &&& (((1 : Int64) <<< (((62 : Int32) - p1) &&& 0x3f).toInt64) - (1 : Int64)))), .second, .unset, .unset] [(.int (1 : Int32)), (.int ((62 : Int32) - p1)), (.long (1 : Int64))])) (fun t k => XS.iconst X0.here hx rfl (hb hby d5_30) k) ?_
    refine go _ (s₁.setTop (mkF m 32 #[.val (.long q0), .second, .val (.int p1), .val (.int ((62 : Int32) - p1)), .val (.long (0 : Int64)), .second, .val (.long ((q0.toUInt64 >>> (((62 : Int32) - p1) &&& 0x3f).toInt64.toUInt64).toInt64)), .second, .val (.long (q0 &&& (((1 : Int64) <<< (((62 : Int32) - p1) &&& 0x3f).toInt64) - (1 : Int64)))), .second, .unset, .unset] [(.int (((62 : Int32) - p1) - (1 : Int32))), (.long (1 : Int64))])) (fun t k => XS.isub X0.here hx rfl (hb hby d5_31) rfl k) ?_
    refine go _ (s₁.setTop (mkF m 33 #[.val (.long q0), .second, .val (.int p1), .val (.int ((62 : Int32) - p1)), .val (.long (0 : Int64)), .second, .val (.long ((q0.toUInt64 >>> (((62 : Int32) - p1) &&& 0x3f).toInt64.toUInt64).toInt64)), .second, .val (.long (q0 &&& (((1 : Int64) <<< (((62 : Int32) - p1) &&& 0x3f).toInt64) - (1 : Int64)))), .second, .unset, .unset] [(.long ((1 : Int64) <<< ((((62 : Int32) - p1) - (1 : Int32)) &&& 0x3f).toInt64))])) (fun t k => XS.lshl X0.here hx rfl (hb hby d5_32) rfl k) ?_
    refine go _ (s₁.setTop (mkF m 35 #[.val (.long q0), .second, .val (.int p1), .val (.int ((62 : Int32) - p1)), .val (.long (0 : Int64)), .second, .val (.long ((q0.toUInt64 >>> (((62 : Int32) - p1) &&& 0x3f).toInt64.toUInt64).toInt64)), .second, .val (.long (q0 &&& (((1 : Int64) <<< (((62 : Int32) - p1) &&& 0x3f).toInt64) - (1 : Int64)))), .second, .val (.long ((1 : Int64) <<< ((((62 : Int32) - p1) - (1 : Int32)) &&& 0x3f).toInt64)), .second] [])) (fun t k => XS.lstore X0.here hx rfl (hb hby d5_33) rfl (l' := #[.val (.long q0), .second, .val (.int p1), .val (.int ((62 : Int32) - p1)), .val (.long (0 : Int64)), .second, .val (.long ((q0.toUInt64 >>> (((62 : Int32) - p1) &&& 0x3f).toInt64.toUInt64).toInt64)), .second, .val (.long (q0 &&& (((1 : Int64) <<< (((62 : Int32) - p1) &&& 0x3f).toInt64) - (1 : Int64)))), .second, .val (.long ((1 : Int64) <<< ((((62 : Int32) - p1) - (1 : Int32)) &&& 0x3f).toInt64)), .second]) rfl k) ?_
    refine go _ (s₁.setTop (mkF m 37 #[.val (.long q0), .second, .val (.int p1), .val (.int ((62 : Int32) - p1)), .val (.long (0 : Int64)), .second, .val (.long ((q0.toUInt64 >>> (((62 : Int32) - p1) &&& 0x3f).toInt64.toUInt64).toInt64)), .second, .val (.long (q0 &&& (((1 : Int64) <<< (((62 : Int32) - p1) &&& 0x3f).toInt64) - (1 : Int64)))), .second, .val (.long ((1 : Int64) <<< ((((62 : Int32) - p1) - (1 : Int32)) &&& 0x3f).toInt64)), .second] [(.long ((q0.toUInt64 >>> (((62 : Int32) - p1) &&& 0x3f).toInt64.toUInt64).toInt64))])) (fun t k => XS.lload X0.here hx rfl (hb hby d5_35) rfl k) ?_
    refine go _ (s₁.setTop (mkF m 39 #[.val (.long q0), .second, .val (.int p1), .val (.int ((62 : Int32) - p1)), .val (.long ((q0.toUInt64 >>> (((62 : Int32) - p1) &&& 0x3f).toInt64.toUInt64).toInt64)), .second, .val (.long ((q0.toUInt64 >>> (((62 : Int32) - p1) &&& 0x3f).toInt64.toUInt64).toInt64)), .second, .val (.long (q0 &&& (((1 : Int64) <<< (((62 : Int32) - p1) &&& 0x3f).toInt64) - (1 : Int64)))), .second, .val (.long ((1 : Int64) <<< ((((62 : Int32) - p1) - (1 : Int32)) &&& 0x3f).toInt64)), .second] [])) (fun t k => XS.lstore X0.here hx rfl (hb hby d5_37) rfl (l' := #[.val (.long q0), .second, .val (.int p1), .val (.int ((62 : Int32) - p1)), .val (.long ((q0.toUInt64 >>> (((62 : Int32) - p1) &&& 0x3f).toInt64.toUInt64).toInt64)), .second, .val (.long ((q0.toUInt64 >>> (((62 : Int32) - p1) &&& 0x3f).toInt64.toUInt64).toInt64)), .second, .val (.long (q0 &&& (((1 : Int64) <<< (((62 : Int32) - p1) &&& 0x3f).toInt64) - (1 : Int64)))), .second, .val (.long ((1 : Int64) <<< ((((62 : Int32) - p1) - (1 : Int32)) &&& 0x3f).toInt64)), .second]) rfl k) ?_
    refine go _ (s₁.setTop (mkF m 41 #[.val (.long q0), .second, .val (.int p1), .val (.int ((62 : Int32) - p1)), .val (.long ((q0.toUInt64 >>> (((62 : Int32) - p1) &&& 0x3f).toInt64.toUInt64).toInt64)), .second, .val (.long ((q0.toUInt64 >>> (((62 : Int32) - p1) &&& 0x3f).toInt64.toUInt64).toInt64)), .second, .val (.long (q0 &&& (((1 : Int64) <<< (((62 : Int32) - p1) &&& 0x3f).toInt64) - (1 : Int64)))), .second, .val (.long ((1 : Int64) <<< ((((62 : Int32) - p1) - (1 : Int32)) &&& 0x3f).toInt64)), .second] [(.long (q0 &&& (((1 : Int64) <<< (((62 : Int32) - p1) &&& 0x3f).toInt64) - (1 : Int64))))])) (fun t k => XS.lload X0.here hx rfl (hb hby d5_39) rfl k) ?_
    refine go _ (s₁.setTop (mkF m 43 #[.val (.long q0), .second, .val (.int p1), .val (.int ((62 : Int32) - p1)), .val (.long ((q0.toUInt64 >>> (((62 : Int32) - p1) &&& 0x3f).toInt64.toUInt64).toInt64)), .second, .val (.long ((q0.toUInt64 >>> (((62 : Int32) - p1) &&& 0x3f).toInt64.toUInt64).toInt64)), .second, .val (.long (q0 &&& (((1 : Int64) <<< (((62 : Int32) - p1) &&& 0x3f).toInt64) - (1 : Int64)))), .second, .val (.long ((1 : Int64) <<< ((((62 : Int32) - p1) - (1 : Int32)) &&& 0x3f).toInt64)), .second] [(.long ((1 : Int64) <<< ((((62 : Int32) - p1) - (1 : Int32)) &&& 0x3f).toInt64)), (.long (q0 &&& (((1 : Int64) <<< (((62 : Int32) - p1) &&& 0x3f).toInt64) - (1 : Int64))))])) (fun t k => XS.lload X0.here hx rfl (hb hby d5_41) rfl k) ?_
    refine go _ (s₁.setTop (mkF m 44 #[.val (.long q0), .second, .val (.int p1), .val (.int ((62 : Int32) - p1)), .val (.long ((q0.toUInt64 >>> (((62 : Int32) - p1) &&& 0x3f).toInt64.toUInt64).toInt64)), .second, .val (.long ((q0.toUInt64 >>> (((62 : Int32) - p1) &&& 0x3f).toInt64.toUInt64).toInt64)), .second, .val (.long (q0 &&& (((1 : Int64) <<< (((62 : Int32) - p1) &&& 0x3f).toInt64) - (1 : Int64)))), .second, .val (.long ((1 : Int64) <<< ((((62 : Int32) - p1) - (1 : Int32)) &&& 0x3f).toInt64)), .second] [(.int (lcmpW (q0 &&& (((1 : Int64) <<< (((62 : Int32) - p1) &&& 0x3f).toInt64) - (1 : Int64))) ((1 : Int64) <<< ((((62 : Int32) - p1) - (1 : Int32)) &&& 0x3f).toInt64)))])) (fun t k => XS.lcmp X0.here hx rfl (hb hby d5_43) rfl k) ?_
    rcases Decidable.em ((q0 &&& (((1 : Int64) <<< (((62 : Int32) - p1) &&& 0x3f).toInt64) - (1 : Int64))) < ((1 : Int64) <<< ((((62 : Int32) - p1) - (1 : Int32)) &&& 0x3f).toInt64)) with hc44 | hc44
    · refine go _ (s₁.setTop (mkF m 53 #[.val (.long q0), .second, .val (.int p1), .val (.int ((62 : Int32) - p1)), .val (.long ((q0.toUInt64 >>> (((62 : Int32) - p1) &&& 0x3f).toInt64.toUInt64).toInt64)), .second, .val (.long ((q0.toUInt64 >>> (((62 : Int32) - p1) &&& 0x3f).toInt64.toUInt64).toInt64)), .second, .val (.long (q0 &&& (((1 : Int64) <<< (((62 : Int32) - p1) &&& 0x3f).toInt64) - (1 : Int64)))), .second, .val (.long ((1 : Int64) <<< ((((62 : Int32) - p1) - (1 : Int32)) &&& 0x3f).toInt64)), .second] [])) (fun t k => XS.ifYes X0.here hx rfl (pc0 := 44) (pc' := 53) rfl (hb hby d5_44) rfl ((if0 _ _).trans (tlt ((lw_lt _ _).mpr hc44)).1) (by decide) (by decide) k) ?_
      refine go _ (s₁.setTop (mkF m 55 #[.val (.long q0), .second, .val (.int p1), .val (.int ((62 : Int32) - p1)), .val (.long ((q0.toUInt64 >>> (((62 : Int32) - p1) &&& 0x3f).toInt64.toUInt64).toInt64)), .second, .val (.long ((q0.toUInt64 >>> (((62 : Int32) - p1) &&& 0x3f).toInt64.toUInt64).toInt64)), .second, .val (.long (q0 &&& (((1 : Int64) <<< (((62 : Int32) - p1) &&& 0x3f).toInt64) - (1 : Int64)))), .second, .val (.long ((1 : Int64) <<< ((((62 : Int32) - p1) - (1 : Int32)) &&& 0x3f).toInt64)), .second] [(.long ((q0.toUInt64 >>> (((62 : Int32) - p1) &&& 0x3f).toInt64.toUInt64).toInt64))])) (fun t k => XS.lload X0.here hx rfl (hb hby d5_53) rfl k) ?_
      refine fin (some (.long ((q0.toUInt64 >>> (((62 : Int32) - p1) &&& 0x3f).toInt64.toUInt64).toInt64))) (mkF m 55 #[.val (.long q0), .second, .val (.int p1), .val (.int ((62 : Int32) - p1)), .val (.long ((q0.toUInt64 >>> (((62 : Int32) - p1) &&& 0x3f).toInt64.toUInt64).toInt64)), .second, .val (.long ((q0.toUInt64 >>> (((62 : Int32) - p1) &&& 0x3f).toInt64.toUInt64).toInt64)), .second, .val (.long (q0 &&& (((1 : Int64) <<< (((62 : Int32) - p1) &&& 0x3f).toInt64) - (1 : Int64)))), .second, .val (.long ((1 : Int64) <<< ((((62 : Int32) - p1) - (1 : Int32)) &&& 0x3f).toInt64)), .second] [(.long ((q0.toUInt64 >>> (((62 : Int32) - p1) &&& 0x3f).toInt64.toUInt64).toInt64))]) X0 (fun h => by cases h) (fun fs hr => retOut X0 hx (t := .long) hret rfl (Or.inr (Or.inl ⟨rfl, rfl, _, rfl⟩)) (hb hby d5_55) hr) ?_ (by decide) (by decide)
      try rw [e0]
      exact ⟨by rw [own_spec5, if_pos hc11, if_pos hc44], N0, rfl⟩
    · refine go _ (s₁.setTop (mkF m 47 #[.val (.long q0), .second, .val (.int p1), .val (.int ((62 : Int32) - p1)), .val (.long ((q0.toUInt64 >>> (((62 : Int32) - p1) &&& 0x3f).toInt64.toUInt64).toInt64)), .second, .val (.long ((q0.toUInt64 >>> (((62 : Int32) - p1) &&& 0x3f).toInt64.toUInt64).toInt64)), .second, .val (.long (q0 &&& (((1 : Int64) <<< (((62 : Int32) - p1) &&& 0x3f).toInt64) - (1 : Int64)))), .second, .val (.long ((1 : Int64) <<< ((((62 : Int32) - p1) - (1 : Int32)) &&& 0x3f).toInt64)), .second] [])) (fun t k => XS.ifNo X0.here hx rfl (hb hby d5_44) rfl ((if0 _ _).trans (flt (fun q => hc44 ((lw_lt _ _).mp q))).1) k) ?_
      refine go _ (s₁.setTop (mkF m 49 #[.val (.long q0), .second, .val (.int p1), .val (.int ((62 : Int32) - p1)), .val (.long ((q0.toUInt64 >>> (((62 : Int32) - p1) &&& 0x3f).toInt64.toUInt64).toInt64)), .second, .val (.long ((q0.toUInt64 >>> (((62 : Int32) - p1) &&& 0x3f).toInt64.toUInt64).toInt64)), .second, .val (.long (q0 &&& (((1 : Int64) <<< (((62 : Int32) - p1) &&& 0x3f).toInt64) - (1 : Int64)))), .second, .val (.long ((1 : Int64) <<< ((((62 : Int32) - p1) - (1 : Int32)) &&& 0x3f).toInt64)), .second] [(.long ((q0.toUInt64 >>> (((62 : Int32) - p1) &&& 0x3f).toInt64.toUInt64).toInt64))])) (fun t k => XS.lload X0.here hx rfl (hb hby d5_47) rfl k) ?_
      refine go _ (s₁.setTop (mkF m 50 #[.val (.long q0), .second, .val (.int p1), .val (.int ((62 : Int32) - p1)), .val (.long ((q0.toUInt64 >>> (((62 : Int32) - p1) &&& 0x3f).toInt64.toUInt64).toInt64)), .second, .val (.long ((q0.toUInt64 >>> (((62 : Int32) - p1) &&& 0x3f).toInt64.toUInt64).toInt64)), .second, .val (.long (q0 &&& (((1 : Int64) <<< (((62 : Int32) - p1) &&& 0x3f).toInt64) - (1 : Int64)))), .second, .val (.long ((1 : Int64) <<< ((((62 : Int32) - p1) - (1 : Int32)) &&& 0x3f).toInt64)), .second] [(.long (1 : Int64)), (.long ((q0.toUInt64 >>> (((62 : Int32) - p1) &&& 0x3f).toInt64.toUInt64).toInt64))])) (fun t k => XS.lconst X0.here hx rfl (hb hby d5_49) k) ?_
      refine go _ (s₁.setTop (mkF m 51 #[.val (.long q0), .second, .val (.int p1), .val (.int ((62 : Int32) - p1)), .val (.long ((q0.toUInt64 >>> (((62 : Int32) - p1) &&& 0x3f).toInt64.toUInt64).toInt64)), .second, .val (.long ((q0.toUInt64 >>> (((62 : Int32) - p1) &&& 0x3f).toInt64.toUInt64).toInt64)), .second, .val (.long (q0 &&& (((1 : Int64) <<< (((62 : Int32) - p1) &&& 0x3f).toInt64) - (1 : Int64)))), .second, .val (.long ((1 : Int64) <<< ((((62 : Int32) - p1) - (1 : Int32)) &&& 0x3f).toInt64)), .second] [(.long (((q0.toUInt64 >>> (((62 : Int32) - p1) &&& 0x3f).toInt64.toUInt64).toInt64) + (1 : Int64)))])) (fun t k => XS.ladd X0.here hx rfl (hb hby d5_50) rfl k) ?_
      refine go _ (s₁.setTop (mkF m 53 #[.val (.long q0), .second, .val (.int p1), .val (.int ((62 : Int32) - p1)), .val (.long (((q0.toUInt64 >>> (((62 : Int32) - p1) &&& 0x3f).toInt64.toUInt64).toInt64) + (1 : Int64))), .second, .val (.long ((q0.toUInt64 >>> (((62 : Int32) - p1) &&& 0x3f).toInt64.toUInt64).toInt64)), .second, .val (.long (q0 &&& (((1 : Int64) <<< (((62 : Int32) - p1) &&& 0x3f).toInt64) - (1 : Int64)))), .second, .val (.long ((1 : Int64) <<< ((((62 : Int32) - p1) - (1 : Int32)) &&& 0x3f).toInt64)), .second] [])) (fun t k => XS.lstore X0.here hx rfl (hb hby d5_51) rfl (l' := #[.val (.long q0), .second, .val (.int p1), .val (.int ((62 : Int32) - p1)), .val (.long (((q0.toUInt64 >>> (((62 : Int32) - p1) &&& 0x3f).toInt64.toUInt64).toInt64) + (1 : Int64))), .second, .val (.long ((q0.toUInt64 >>> (((62 : Int32) - p1) &&& 0x3f).toInt64.toUInt64).toInt64)), .second, .val (.long (q0 &&& (((1 : Int64) <<< (((62 : Int32) - p1) &&& 0x3f).toInt64) - (1 : Int64)))), .second, .val (.long ((1 : Int64) <<< ((((62 : Int32) - p1) - (1 : Int32)) &&& 0x3f).toInt64)), .second]) rfl k) ?_
      refine go _ (s₁.setTop (mkF m 55 #[.val (.long q0), .second, .val (.int p1), .val (.int ((62 : Int32) - p1)), .val (.long (((q0.toUInt64 >>> (((62 : Int32) - p1) &&& 0x3f).toInt64.toUInt64).toInt64) + (1 : Int64))), .second, .val (.long ((q0.toUInt64 >>> (((62 : Int32) - p1) &&& 0x3f).toInt64.toUInt64).toInt64)), .second, .val (.long (q0 &&& (((1 : Int64) <<< (((62 : Int32) - p1) &&& 0x3f).toInt64) - (1 : Int64)))), .second, .val (.long ((1 : Int64) <<< ((((62 : Int32) - p1) - (1 : Int32)) &&& 0x3f).toInt64)), .second] [(.long (((q0.toUInt64 >>> (((62 : Int32) - p1) &&& 0x3f).toInt64.toUInt64).toInt64) + (1 : Int64)))])) (fun t k => XS.lload X0.here hx rfl (hb hby d5_53) rfl k) ?_
      refine fin (some (.long (((q0.toUInt64 >>> (((62 : Int32) - p1) &&& 0x3f).toInt64.toUInt64).toInt64) + (1 : Int64)))) (mkF m 55 #[.val (.long q0), .second, .val (.int p1), .val (.int ((62 : Int32) - p1)), .val (.long (((q0.toUInt64 >>> (((62 : Int32) - p1) &&& 0x3f).toInt64.toUInt64).toInt64) + (1 : Int64))), .second, .val (.long ((q0.toUInt64 >>> (((62 : Int32) - p1) &&& 0x3f).toInt64.toUInt64).toInt64)), .second, .val (.long (q0 &&& (((1 : Int64) <<< (((62 : Int32) - p1) &&& 0x3f).toInt64) - (1 : Int64)))), .second, .val (.long ((1 : Int64) <<< ((((62 : Int32) - p1) - (1 : Int32)) &&& 0x3f).toInt64)), .second] [(.long (((q0.toUInt64 >>> (((62 : Int32) - p1) &&& 0x3f).toInt64.toUInt64).toInt64) + (1 : Int64)))]) X0 (fun h => by cases h) (fun fs hr => retOut X0 hx (t := .long) hret rfl (Or.inr (Or.inl ⟨rfl, rfl, _, rfl⟩)) (hb hby d5_55) hr) ?_ (by decide) (by decide)
      try rw [e0]
      exact ⟨by rw [own_spec5, if_pos hc11, if_neg hc44], N0, rfl⟩
  · refine go _ (s₁.setTop (mkF m 53 #[.val (.long q0), .second, .val (.int p1), .val (.int ((62 : Int32) - p1)), .val (.long (0 : Int64)), .second, .unset, .unset, .unset, .unset, .unset, .unset] [])) (fun t k => XS.icmpYes X0.here hx rfl (pc0 := 11) (pc' := 53) rfl (hb hby d5_11) rfl (flt hc11).2.1 (by decide) (by decide) k) ?_
    refine go _ (s₁.setTop (mkF m 55 #[.val (.long q0), .second, .val (.int p1), .val (.int ((62 : Int32) - p1)), .val (.long (0 : Int64)), .second, .unset, .unset, .unset, .unset, .unset, .unset] [(.long (0 : Int64))])) (fun t k => XS.lload X0.here hx rfl (hb hby d5_53) rfl k) ?_
    refine fin (some (.long (0 : Int64))) (mkF m 55 #[.val (.long q0), .second, .val (.int p1), .val (.int ((62 : Int32) - p1)), .val (.long (0 : Int64)), .second, .unset, .unset, .unset, .unset, .unset, .unset] [(.long (0 : Int64))]) X0 (fun h => by cases h) (fun fs hr => retOut X0 hx (t := .long) hret rfl (Or.inr (Or.inl ⟨rfl, rfl, _, rfl⟩)) (hb hby d5_55) hr) ?_ (by decide) (by decide)
    try rw [e0]
    exact ⟨by rw [own_spec5, if_neg hc11], N0, rfl⟩
theorem own_ef0 (m : MethodId) (q0 : Int64) (p2 : Int32) : entryFrame m #[(.long q0), (.int p2)] maxLocals = mkF m 0 #[.val (.long q0), .second, .val (.int p2), .unset, .unset, .unset, .unset, .unset, .unset] [] := by first | (simp [entryFrame, mkF, argsToLocals, Value.category, maxLocals]; done) | rfl
theorem own_pn0 : plainName "com/example/lienwright/lienwright/BinaryRoundedHalfUpPinLaw" = true := by first | (simp [plainName, overriddenIn]; done) | decide +kernel
theorem own_pd_1 : parseMethodDescriptor "(JI)V" = some ⟨[.long, .int], none⟩ := by decide +kernel
theorem own_pd_2 : parseMethodDescriptor "()J" = some ⟨[], some .long⟩ := by decide +kernel
theorem own_pd_3 : parseMethodDescriptor "(JI)J" = some ⟨[.long, .int], some .long⟩ := by decide +kernel
def own_Q0 (Z : State) (q0 : Int64) (p2 : Int32) (h0 : Heap) (n0 : Nat) (v : Option Value) (h : Heap) (L : List Loc) : Prop := v = some (.int 1) ∧ Fr n0 L
set_option maxRecDepth 65536 in
set_option maxHeartbeats 40000000 in
theorem rm0 (l : Launch) (Z : State) (a0 : Array Value) (hw : ∀ d ∈ tables_1, d.before a0 Z = true) (ws : List Jvm.Cond) (q0 : Int64) (p2 : Int32) (h0 : Heap) (n0 : Nat) (Z0 : n0 ≤ h0.size) :
    MetFree l x (head1 (Jvm.Cond.code x code maxLocals ret :: ws) room_1) (fun a U => a = #[(.long q0), (.int p2)] ∧ Z.Warmed39 U.vm ∧ U.heap = h0) (fun _ _ _ _ _ => True) (fun _ U o U' => ∃ v L, o = .returned v ∧ own_Q0 Z q0 p2 h0 n0 v U'.heap L ∧ FrameEnd U o U' L room_1.cells room_1.slots) := by
  refine own_metfree (Q := own_Q0 Z q0 p2 h0 n0) (plainFor_of_name own_pn0) ?_
  intro p e s m below meth c s₁ X0 hx hby hml hret hown hnm hZ e0 G go fin
  have N0 := Fr.nil n0
  refine go _ (s₁.setTop (mkF m 0 #[.val (.long q0), .second, .val (.int p2), .unset, .unset, .unset, .unset, .unset, .unset] [])) (fun t k => castTop (own_ef0 m q0 p2) k) ?_
  refine go _ (s₁.setTop (mkF m 1 #[.val (.long q0), .second, .val (.int p2), .unset, .unset, .unset, .unset, .unset, .unset] [(.long q0)])) (fun t k => XS.lloadN X0.here hx rfl (hb hby at_0) rfl k) ?_
  refine go _ (s₁.setTop (mkF m 4 #[.val (.long q0), .second, .val (.int p2), .unset, .unset, .unset, .unset, .unset, .unset] [(.long (4611686018427387903 : Int64)), (.long q0)])) (fun t k => X0.ldc2Long hx hown (mvT hZ (hw _ (List.mem_of_getElem? (i := 0) rfl))) (g := (mkF m 1 #[.val (.long q0), .second, .val (.int p2), .unset, .unset, .unset, .unset, .unset, .unset] [(.long q0)])) rfl (hb hby at_1) _ k) ?_
  refine go _ (s₁.setTop (mkF m 5 #[.val (.long q0), .second, .val (.int p2), .unset, .unset, .unset, .unset, .unset, .unset] [(.long (q0 &&& (4611686018427387903 : Int64)))])) (fun t k => XS.land X0.here hx rfl (hb hby at_4) rfl k) ?_
  refine go _ (s₁.setTop (mkF m 8 #[.val (.long q0), .second, .val (.int p2), .unset, .unset, .unset, .unset, .unset, .unset] [(.long (4611686018427387904 : Int64)), (.long (q0 &&& (4611686018427387903 : Int64)))])) (fun t k => X0.ldc2Long hx hown (mvT hZ (hw _ (List.mem_of_getElem? (i := 1) rfl))) (g := (mkF m 5 #[.val (.long q0), .second, .val (.int p2), .unset, .unset, .unset, .unset, .unset, .unset] [(.long (q0 &&& (4611686018427387903 : Int64)))])) rfl (hb hby at_5) _ k) ?_
  refine go _ (s₁.setTop (mkF m 9 #[.val (.long q0), .second, .val (.int p2), .unset, .unset, .unset, .unset, .unset, .unset] [(.long ((q0 &&& (4611686018427387903 : Int64)) ||| (4611686018427387904 : Int64)))])) (fun t k => XS.lor X0.here hx rfl (hb hby at_8) rfl k) ?_
  generalize hv_vm : ((q0 &&& (4611686018427387903 : Int64)) ||| (4611686018427387904 : Int64)) = vm
  refine go _ (s₁.setTop (mkF m 10 #[.val (.long q0), .second, .val (.int p2), .val (.long vm), .second, .unset, .unset, .unset, .unset] [])) (fun t k => XS.lstoreN X0.here hx rfl (hb hby at_9) rfl (l' := #[.val (.long q0), .second, .val (.int p2), .val (.long vm), .second, .unset, .unset, .unset, .unset]) rfl k) ?_
  refine go _ (s₁.setTop (mkF m 11 #[.val (.long q0), .second, .val (.int p2), .val (.long vm), .second, .unset, .unset, .unset, .unset] [(.int p2)])) (fun t k => XS.iloadN X0.here hx rfl (hb hby at_10) rfl k) ?_
  refine go _ (s₁.setTop (mkF m 13 #[.val (.long q0), .second, .val (.int p2), .val (.long vm), .second, .unset, .unset, .unset, .unset] [(.int (1073741823 : Int32)), (.int p2)])) (fun t k => X0.ldcInt hx hown (mvT hZ (hw _ (List.mem_of_getElem? (i := 2) rfl))) (g := (mkF m 11 #[.val (.long q0), .second, .val (.int p2), .val (.long vm), .second, .unset, .unset, .unset, .unset] [(.int p2)])) rfl (hb hby at_11) _ k) ?_
  refine go _ (s₁.setTop (mkF m 14 #[.val (.long q0), .second, .val (.int p2), .val (.long vm), .second, .unset, .unset, .unset, .unset] [(.int (p2 &&& (1073741823 : Int32)))])) (fun t k => XS.iand X0.here hx rfl (hb hby at_13) rfl k) ?_
  refine go _ (s₁.setTop (mkF m 16 #[.val (.long q0), .second, .val (.int p2), .val (.long vm), .second, .val (.int (p2 &&& (1073741823 : Int32))), .unset, .unset, .unset] [])) (fun t k => XS.istore X0.here hx rfl (hb hby at_14) rfl (l' := #[.val (.long q0), .second, .val (.int p2), .val (.long vm), .second, .val (.int (p2 &&& (1073741823 : Int32))), .unset, .unset, .unset]) rfl k) ?_
  have j30 : ∀ (vd : Int32) (hd : 0 ≤ vd.toInt ∧ vd.toInt < 1073741824), G (s₁.setTop (mkF m 30 #[.val (.long q0), .second, .val (.int p2), .val (.long vm), .second, .val (.int vd), .unset, .unset, .unset] [])) := by
    intro vd hd
    refine go _ (s₁.setTop (mkF m 32 #[.val (.long q0), .second, .val (.int p2), .val (.long vm), .second, .val (.int vd), .unset, .unset, .unset] [(.int (60 : Int32))])) (fun t k => XS.bipush X0.here hx rfl (hb hby at_30) k) ?_
    refine go _ (s₁.setTop (mkF m 34 #[.val (.long q0), .second, .val (.int p2), .val (.long vm), .second, .val (.int vd), .unset, .unset, .unset] [(.int vd), (.int (60 : Int32))])) (fun t k => XS.iload X0.here hx rfl (hb hby at_32) rfl k) ?_
    refine go _ (s₁.setTop (mkF m 35 #[.val (.long q0), .second, .val (.int p2), .val (.long vm), .second, .val (.int vd), .unset, .unset, .unset] [(.int ((60 : Int32) - vd))])) (fun t k => XS.isub X0.here hx rfl (hb hby at_34) rfl k) ?_
    generalize hv_ve : ((60 : Int32) - vd) = ve
    refine go _ (s₁.setTop (mkF m 37 #[.val (.long q0), .second, .val (.int p2), .val (.long vm), .second, .val (.int vd), .val (.int ve), .unset, .unset] [])) (fun t k => XS.istore X0.here hx rfl (hb hby at_35) rfl (l' := #[.val (.long q0), .second, .val (.int p2), .val (.long vm), .second, .val (.int vd), .val (.int ve), .unset, .unset]) rfl k) ?_
    obtain ⟨T1, h1, X1, e1, E1, Ax1, D1, -, st1⟩ := newO X0 hx hZ hown (hw _ (List.mem_of_getElem? (i := 4) rfl)) (hw _ (List.mem_of_getElem? (i := 5) rfl)) (hw _ (List.mem_of_getElem? (i := 6) rfl)) e0 (g := (mkF m 37 #[.val (.long q0), .second, .val (.int p2), .val (.long vm), .second, .val (.int vd), .val (.int ve), .unset, .unset] [])) rfl (hb hby at_37) (by decide) (by decide)
    obtain ⟨b1, gb1⟩ : ∃ z, z = h0.size := ⟨_, rfl⟩
    rw [← gb1] at Ax1 D1 st1
    have g_b1 : n0 ≤ b1 := Nat.le_trans Z0 (Nat.le_of_eq gb1.symm)
    have sz_b1 : h0.size ≤ b1 := (Nat.le_of_eq gb1.symm)
    have F_mantissa_b1 : Fld Z h1 b1 "com/example/lienwright/lienwright/LevelPayment$Binary" "mantissa" "J" (.long (0 : Int64)) := D1 (Or.inr (hw _ (List.mem_of_getElem? (i := 19) rfl))) (ty := .long) (by decide)
    have F_exponent_b1 : Fld Z h1 b1 "com/example/lienwright/lienwright/LevelPayment$Binary" "exponent" "I" (.int (0 : Int32)) := D1 (Or.inr (hw _ (List.mem_of_getElem? (i := 21) rfl))) (ty := .int) (by decide)
    refine go _ (T1.setTop (mkF m 40 #[.val (.long q0), .second, .val (.int p2), .val (.long vm), .second, .val (.int vd), .val (.int ve), .unset, .unset] [(.ref b1)])) st1 ?_
    refine go _ (T1.setTop (mkF m 41 #[.val (.long q0), .second, .val (.int p2), .val (.long vm), .second, .val (.int vd), .val (.int ve), .unset, .unset] [(.ref b1), (.ref b1)])) (fun t k => XS.dup X1.here hx rfl (hb hby at_40) rfl rfl k) ?_
    refine go _ (T1.setTop (mkF m 42 #[.val (.long q0), .second, .val (.int p2), .val (.long vm), .second, .val (.int vd), .val (.int ve), .unset, .unset] [(.long vm), (.ref b1), (.ref b1)])) (fun t k => XS.lloadN X1.here hx rfl (hb hby at_41) rfl k) ?_
    refine go _ (T1.setTop (mkF m 44 #[.val (.long q0), .second, .val (.int p2), .val (.long vm), .second, .val (.int vd), .val (.int ve), .unset, .unset] [(.int ve), (.long vm), (.ref b1), (.ref b1)])) (fun t k => XS.iload X1.here hx rfl (hb hby at_42) rfl k) ?_
    have Z2z : n0 ≤ h1.size := (Nat.le_trans Z0 E1.1)
    obtain ⟨_, _, ⟨T3, L3, k3, n3⟩, -, X3, ⟨Lc3, hQ3, l3, y3, z3⟩, st3⟩ := X1.specialBack hx (y := (⟨"com/example/lienwright/lienwright/LevelPayment$Binary", "<init>", "(JI)V"⟩ : MethodName)) rfl hown (mvT hZ (hw _ (List.mem_of_getElem? (i := 7) rfl))) (mvT hZ (hw _ (List.mem_of_getElem? (i := 8) rfl))) (mvT hZ (hw _ (List.mem_of_getElem? (i := 9) rfl))) (by decide) (backOf (W := 1) (rm1 l Z a0 hw [] b1 vm ve h1 n0 Z2z F_mantissa_b1 F_exponent_b1 Ax1 g_b1) hZ (hw _ (List.mem_of_getElem? (i := 9) rfl)) (hw _ (List.mem_of_getElem? (i := 6) rfl)) (by decide) (by decide)) (g := (mkF m 44 #[.val (.long q0), .second, .val (.int p2), .val (.long vm), .second, .val (.int vd), .val (.int ve), .unset, .unset] [(.int ve), (.long vm), (.ref b1), (.ref b1)])) rfl (by rw [hml]; rfl) (Steps.refl _) (a := b1) (argsL := [(.long vm), (.int ve)]) (rest := [(.ref b1)]) (lenOf own_pd_1 rfl) rfl (by show 2 * 0 + _ ≤ _; exact Nat.le_of_eq rfl) (hb hby at_44) (fun _ _ => ⟨rfl, e1, (by decide : 1 + 0 ≤ _), (by decide : 2 + 0 ≤ _)⟩)
    dsimp only [Pt.U, Pt.locs, Pt.cells, Pt.slots] at X3 l3 y3 z3 st3 hQ3
    subst l3 y3 z3
    obtain ⟨rfl, Nq3, K3, Ex3, Fa3_0, Fa3_1⟩ := hQ3
    have N3 := Fr.app N0 Nq3
    refine go _ (T3.setTop (mkF m 47 #[.val (.long q0), .second, .val (.int p2), .val (.long vm), .second, .val (.int vd), .val (.int ve), .unset, .unset] [(.ref b1)])) (fun t k => st3.trans k) ?_
    have Z4z : n0 ≤ T3.heap.size := (Nat.le_trans Z2z K3.1)
    obtain ⟨cq5, kq5, q5a, q5b, q5c⟩ := isOf hZ rfl Ex3
    obtain ⟨_, _, ⟨T5, L5, k5, n5⟩, -, X5, ⟨Lc5, hQ5, l5, y5, z5⟩, st5⟩ := X3.virtualBack hx (y := (⟨"com/example/lienwright/lienwright/LevelPayment$Binary", "roundedHalfUp", "()J"⟩ : MethodName)) (z := (⟨"com/example/lienwright/lienwright/LevelPayment$Binary", "roundedHalfUp", "()J"⟩ : MethodName)) hown (mvT hZ (hw _ (List.mem_of_getElem? (i := 22) rfl))) (mvT hZ (hw _ (List.mem_of_getElem? (i := 23) rfl))) (notFace_of_selects (args := #[]) (mvT hZ (hw _ (List.mem_of_getElem? (i := 25) rfl)))) (mvT hZ (hw _ (List.mem_of_getElem? (i := 25) rfl))) (mvT hZ (hw _ (List.mem_of_getElem? (i := 24) rfl))) (by decide) (backOf (W := 0) (rm4 l Z a0 hw [] b1 vm ve T3.heap n0 Z4z Fa3_0 Fa3_1) hZ (hw _ (List.mem_of_getElem? (i := 26) rfl)) (hw _ (List.mem_of_getElem? (i := 6) rfl)) (by decide) (by decide)) q5a q5c (g := (mkF m 47 #[.val (.long q0), .second, .val (.int p2), .val (.long vm), .second, .val (.int vd), .val (.int ve), .unset, .unset] [(.ref b1)])) rfl (by rw [hml]; rfl) (Steps.refl _) (argsL := []) (rest := []) (lenOf own_pd_2 rfl) rfl (by show 2 * 0 + _ ≤ _; exact Nat.le_of_eq rfl) (hb hby at_47) (fun _ _ => ⟨rfl, rfl, (by decide : 1 + 0 ≤ _), (by decide : 2 + 0 ≤ _)⟩)
    dsimp only [Pt.U, Pt.locs, Pt.cells, Pt.slots] at X5 l5 y5 z5 st5 hQ5
    subst l5 y5 z5
    obtain ⟨rfl, Nq5, eq5⟩ := hQ5
    have N5 := Fr.app N3 Nq5
    refine go _ (T5.setTop (mkF m 50 #[.val (.long q0), .second, .val (.int p2), .val (.long vm), .second, .val (.int vd), .val (.int ve), .unset, .unset] [(.long (own_spec4 vm ve))])) (fun t k => st5.trans k) ?_
    refine go _ (T5.setTop (mkF m 52 #[.val (.long q0), .second, .val (.int p2), .val (.long vm), .second, .val (.int vd), .val (.int ve), .val (.long (own_spec4 vm ve)), .second] [])) (fun t k => XS.lstore X5.here hx rfl (hb hby at_50) rfl (l' := #[.val (.long q0), .second, .val (.int p2), .val (.long vm), .second, .val (.int vd), .val (.int ve), .val (.long (own_spec4 vm ve)), .second]) rfl k) ?_
    refine go _ (T5.setTop (mkF m 54 #[.val (.long q0), .second, .val (.int p2), .val (.long vm), .second, .val (.int vd), .val (.int ve), .val (.long (own_spec4 vm ve)), .second] [(.long (own_spec4 vm ve))])) (fun t k => XS.lload X5.here hx rfl (hb hby at_52) rfl k) ?_
    refine go _ (T5.setTop (mkF m 55 #[.val (.long q0), .second, .val (.int p2), .val (.long vm), .second, .val (.int vd), .val (.int ve), .val (.long (own_spec4 vm ve)), .second] [(.long vm), (.long (own_spec4 vm ve))])) (fun t k => XS.lloadN X5.here hx rfl (hb hby at_54) rfl k) ?_
    refine go _ (T5.setTop (mkF m 57 #[.val (.long q0), .second, .val (.int p2), .val (.long vm), .second, .val (.int vd), .val (.int ve), .val (.long (own_spec4 vm ve)), .second] [(.int ve), (.long vm), (.long (own_spec4 vm ve))])) (fun t k => XS.iload X5.here hx rfl (hb hby at_55) rfl k) ?_
    obtain ⟨_, _, ⟨T6, L6, k6, n6⟩, -, X6, ⟨Lc6, hQ6, l6, y6, z6⟩, st6⟩ := Jvm.LawKit.callS X5 hx (y := (⟨"com/example/lienwright/lienwright/BinaryRoundedHalfUpPinLaw", "expected", "(JI)J"⟩ : MethodName)) hown (mvT hZ (hw _ (List.mem_of_getElem? (i := 27) rfl))) (mvT hZ (hw _ (List.mem_of_getElem? (i := 28) rfl))) (mvT hZ (hw _ (List.mem_of_getElem? (i := 29) rfl))) (mvT hZ (hw _ (List.mem_of_getElem? (i := 30) rfl))) (by decide) (backOf (W := 2) (rm5 l Z a0 hw [] vm ve T3.heap n0 Z4z) hZ (hw _ (List.mem_of_getElem? (i := 30) rfl)) (hw _ (List.mem_of_getElem? (i := 29) rfl)) (by decide) (by decide)) (g := (mkF m 57 #[.val (.long q0), .second, .val (.int p2), .val (.long vm), .second, .val (.int vd), .val (.int ve), .val (.long (own_spec4 vm ve)), .second] [(.int ve), (.long vm), (.long (own_spec4 vm ve))])) rfl (by rw [hml]; rfl) (argsL := [(.long vm), (.int ve)]) (rest := [(.long (own_spec4 vm ve))]) (lenOf own_pd_3 rfl) rfl (by show 2 * 0 + _ ≤ _; exact Nat.le_of_eq rfl) (hb hby at_57) (fun _ _ => ⟨rfl, eq5, (by decide : 1 + 0 ≤ _), (by decide : 2 + 0 ≤ _)⟩)
    dsimp only [Pt.U, Pt.locs, Pt.cells, Pt.slots] at X6 l6 y6 z6 st6 hQ6
    subst l6 y6 z6
    obtain ⟨rfl, Nq6, eq6⟩ := hQ6
    have N6 := Fr.app N5 Nq6
    refine go _ (T6.setTop (mkF m 60 #[.val (.long q0), .second, .val (.int p2), .val (.long vm), .second, .val (.int vd), .val (.int ve), .val (.long (own_spec4 vm ve)), .second] [(.long (own_spec5 vm ve)), (.long (own_spec4 vm ve))])) st6 ?_
    refine go _ (T6.setTop (mkF m 61 #[.val (.long q0), .second, .val (.int p2), .val (.long vm), .second, .val (.int vd), .val (.int ve), .val (.long (own_spec4 vm ve)), .second] [(.int (lcmpW (own_spec4 vm ve) (own_spec5 vm ve)))])) (fun t k => XS.lcmp X6.here hx rfl (hb hby at_60) rfl k) ?_
    have hc61 : (own_spec4 vm ve) = (own_spec5 vm ve) := by subst hv_vm hv_ve; exact own_law q0 vd hd
    refine go _ (T6.setTop (mkF m 64 #[.val (.long q0), .second, .val (.int p2), .val (.long vm), .second, .val (.int vd), .val (.int ve), .val (.long (own_spec4 vm ve)), .second] [])) (fun t k => XS.ifNo X6.here hx rfl (hb hby at_61) rfl ((if0 _ _).trans (teq ((lw_eq _ _).mpr hc61)).2) k) ?_
    refine go _ (T6.setTop (mkF m 65 #[.val (.long q0), .second, .val (.int p2), .val (.long vm), .second, .val (.int vd), .val (.int ve), .val (.long (own_spec4 vm ve)), .second] [(.int (1 : Int32))])) (fun t k => XS.iconst X6.here hx rfl (hb hby at_64) k) ?_
    refine go _ (T6.setTop (mkF m 69 #[.val (.long q0), .second, .val (.int p2), .val (.long vm), .second, .val (.int vd), .val (.int ve), .val (.long (own_spec4 vm ve)), .second] [(.int (1 : Int32))])) (fun t k => XS.goto X6.here hx rfl (pc0 := 65) (pc' := 69) rfl (hb hby at_65) (by decide) (by decide) k) ?_
    refine fin (some (.int (1 : Int32))) (mkF m 69 #[.val (.long q0), .second, .val (.int p2), .val (.long vm), .second, .val (.int vd), .val (.int ve), .val (.long (own_spec4 vm ve)), .second] [(.int (1 : Int32))]) X6 (fun h => by cases h) (fun fs hr => retOut X6 hx (t := .boolean) hret rfl (Or.inl ⟨rfl, by simp, _, rfl⟩) (hb hby at_69) hr) ?_ (by decide) (by decide)
    exact ⟨rfl, N6⟩
  refine go _ (s₁.setTop (mkF m 17 #[.val (.long q0), .second, .val (.int p2), .val (.long vm), .second, .val (.int (p2 &&& (1073741823 : Int32))), .unset, .unset, .unset] [(.int p2)])) (fun t k => XS.iloadN X0.here hx rfl (hb hby at_16) rfl k) ?_
  refine go _ (s₁.setTop (mkF m 19 #[.val (.long q0), .second, .val (.int p2), .val (.long vm), .second, .val (.int (p2 &&& (1073741823 : Int32))), .unset, .unset, .unset] [(.int (1073741824 : Int32)), (.int p2)])) (fun t k => X0.ldcInt hx hown (mvT hZ (hw _ (List.mem_of_getElem? (i := 3) rfl))) (g := (mkF m 17 #[.val (.long q0), .second, .val (.int p2), .val (.long vm), .second, .val (.int (p2 &&& (1073741823 : Int32))), .unset, .unset, .unset] [(.int p2)])) rfl (hb hby at_17) _ k) ?_
  refine go _ (s₁.setTop (mkF m 20 #[.val (.long q0), .second, .val (.int p2), .val (.long vm), .second, .val (.int (p2 &&& (1073741823 : Int32))), .unset, .unset, .unset] [(.int (p2 &&& (1073741824 : Int32)))])) (fun t k => XS.iand X0.here hx rfl (hb hby at_19) rfl k) ?_
  rcases Decidable.em ((p2 &&& (1073741824 : Int32)) = (0 : Int32)) with hc20 | hc20
  · refine go _ (s₁.setTop (mkF m 23 #[.val (.long q0), .second, .val (.int p2), .val (.long vm), .second, .val (.int (p2 &&& (1073741823 : Int32))), .unset, .unset, .unset] [])) (fun t k => XS.ifNo X0.here hx rfl (hb hby at_20) rfl ((if0 _ _).trans (teq hc20).2) k) ?_
    refine go _ (s₁.setTop (mkF m 25 #[.val (.long q0), .second, .val (.int p2), .val (.long vm), .second, .val (.int (p2 &&& (1073741823 : Int32))), .unset, .unset, .unset] [(.int (p2 &&& (1073741823 : Int32)))])) (fun t k => XS.iload X0.here hx rfl (hb hby at_23) rfl k) ?_
    refine go _ (s₁.setTop (mkF m 27 #[.val (.long q0), .second, .val (.int p2), .val (.long vm), .second, .val (.int (p2 &&& (1073741823 : Int32))), .unset, .unset, .unset] [(.int (127 : Int32)), (.int (p2 &&& (1073741823 : Int32)))])) (fun t k => XS.bipush X0.here hx rfl (hb hby at_25) k) ?_
    refine go _ (s₁.setTop (mkF m 28 #[.val (.long q0), .second, .val (.int p2), .val (.long vm), .second, .val (.int (p2 &&& (1073741823 : Int32))), .unset, .unset, .unset] [(.int ((p2 &&& (1073741823 : Int32)) &&& (127 : Int32)))])) (fun t k => XS.iand X0.here hx rfl (hb hby at_27) rfl k) ?_
    refine go _ (s₁.setTop (mkF m 30 #[.val (.long q0), .second, .val (.int p2), .val (.long vm), .second, .val (.int ((p2 &&& (1073741823 : Int32)) &&& (127 : Int32))), .unset, .unset, .unset] [])) (fun t k => XS.istore X0.here hx rfl (hb hby at_28) rfl (l' := #[.val (.long q0), .second, .val (.int p2), .val (.long vm), .second, .val (.int ((p2 &&& (1073741823 : Int32)) &&& (127 : Int32))), .unset, .unset, .unset]) rfl k) ?_
    exact j30 ((p2 &&& (1073741823 : Int32)) &&& (127 : Int32)) (own_d2 p2)
  · refine go _ (s₁.setTop (mkF m 30 #[.val (.long q0), .second, .val (.int p2), .val (.long vm), .second, .val (.int (p2 &&& (1073741823 : Int32))), .unset, .unset, .unset] [])) (fun t k => XS.ifYes X0.here hx rfl (pc0 := 20) (pc' := 30) rfl (hb hby at_20) rfl ((if0 _ _).trans (feq hc20).2) (by decide) (by decide) k) ?_
    exact j30 (p2 &&& (1073741823 : Int32)) (own_d1 p2)
set_option maxRecDepth 65536 in
set_option maxHeartbeats 40000000 in
theorem comes_1 {Post : Tables → Env → Array Value → State → Outcome → State → Prop} (hpost : ∀ tb e args s v u, (limb_1_1.after args s (.returned v) u = true ∧ limb_1_2.after args s (.returned v) u = true ∧ True) → FrameEnd s (.returned v) u (Jvm.fieldLocs frame_1_writes args s ++ Jvm.arrayLocs frame_1_arrays args s ++ Jvm.staticLocs frame_1_statics s) 16 128 → Post tb e args s (.returned v) u) :
    ArmFor flags0 classFile x code maxLocals ret World_1 tables_1 room_1 Calls_1 rest_1 Pre_1 Post := by
  intro l hfl _ _ p e ha hc hk s m args below hf hA hF happ hP
  obtain ⟨hcalls, hrest, hpre⟩ := hP
  obtain ⟨-, -, -, hnamed, -, -, -, hat⟩ := (Spec.applies_iff hf).mp happ
  obtain ⟨hg, hn⟩ := and_e (Cond.before_iff.mp (show (Jvm.Cond.and given_1 narrow_1).before args s = true from hpre))
  obtain ⟨gg1, gg2⟩ := and_e hg
  obtain ⟨gg3, gg4⟩ := and_e gg2
  obtain ⟨w0, w1, rfl⟩ : ∃ w0 w1 : Value, args = #[w0, w1] := by
    have hs : args.size = 2 := by simpa [Cond.value, given_1] using gg1
    obtain ⟨L⟩ := args
    match L, hs with
    | [w0, w1], _ => exact ⟨w0, w1, rfl⟩
  have hw := fun d (hd : d ∈ tables_1) => atoms_spec (ws := Jvm.Cond.code x code maxLocals ret :: tables_1) hat d (List.mem_cons_of_mem _ hd)
  have hfit : Fit s := fun {y c} hc i hi => by
    obtain ⟨ha, rfl⟩ := Array.getElem?_eq_some_iff.mp hc
    have q := List.all_eq_true.mp ((Array.all_eq_true_iff_forall_mem.mp hF) _ (Array.getElem_mem ha)) i (List.mem_range.mpr hi)
    simpa [Array.getElem?_eq_getElem hi] using q
  obtain ⟨i0, ei0⟩ := isL_v gg3
  obtain rfl : w0 = (.long i0) := Option.some.inj ei0
  obtain ⟨i1, ei1⟩ := is_v gg4
  obtain rfl : w1 = (.int i1) := Option.some.inj ei1
  obtain ⟨n, o, h1, h2, h3, _, L, rfl, ⟨rfl, N⟩, hq⟩ := rm0 l s _ hw tables_1 i0 i1 s.heap s.heap.size (Nat.le_refl _)  p e ha hc hk s m _ below hf ((Spec.applies_iff_loose hf).mp happ).1 ⟨rfl, State.Warmed39.refl s, rfl⟩ trivial
  refine ⟨n, _, h1, h2, h3, hpost _ _ _ _ _ _ ⟨Cond.after_iff.mpr rfl, Cond.after_iff.mpr (eq_i res_at (Term.int_eval (1)) rfl), trivial⟩ ⟨hq.1, hq.2.1, (hq.2.2.sift fun y hy => Or.inr (N y hy)).mono (by decide) (by decide)⟩⟩
theorem main_1_1 : Claimed_1_1 := comes_1 fun _ _ _ _ _ _ h hF => ⟨h.1, hF⟩
theorem main_1_2 : Claimed_1_2 := comes_1 fun _ _ _ _ _ _ h hF => ⟨h.2.1, hF⟩
end Jvm.Pilot.@@N@@
namespace Jvm.Pilot.@@N@@
open Jvm Jvm.ClassFile Sem Op Lib Jvm.Free Jvm.Stand Jvm.Pilot.@@N@@.Jvm.D
/-! MADE BY PROGRAM (witnessworld.py) out of the Statement's table words and the real class files: 10 classes; the members and pool entries that the words name. The judged class is class 1, her method 1. -/
namespace start1
open Jvm.ClassFile
def u (s : String) : CpInfo := .utf8 (stringToUtf16 s)
/-- a pool by its gaps: so many unusable entries, then the entry; so many at the end -/
def gap : Nat → List CpInfo → List CpInfo
  | 0, r => r
  | n + 1, r => .unusable :: gap n r
def poolList (es : List (Nat × CpInfo)) (last : Nat) : List CpInfo := es.foldr (fun e r => gap e.1 (e.2 :: r)) (gap last [])
def pool (es : List (Nat × CpInfo)) (last : Nat) : Array CpInfo := ⟨poolList es last⟩
def fileOf (pool : Array CpInfo) (this : Nat) (attrs : Array Attribute := #[]) (ms : Array MethodInfo := #[]) (fl : Nat := 33) (sup : Nat := 0) (ifs : Array Nat := #[]) (fds : Array FieldInfo := #[]) : ClassFile where
  minorVersion := 0
  majorVersion := 65
  constantPool := pool
  accessFlags := fl
  thisClass := this
  superClass := sup
  interfaces := ifs
  fields := fds
  methods := ms
  attributes := attrs
def plain (name : String) (sup : Option ClassId) : Class where
  name := name
  kind := .ordinary
  loader := none
  accessFlags := 33
  super := sup
  interfaces := #[]
  cf := none
  fields := #[]
  methods := #[]
  instanceTypes := #[]
  staticTypes := #[]
  resolved := #[]
  callSites := []
  init := .initialized
  statics := none
  mirror := none

def pool0 : Array CpInfo := pool [(5, u "<init>"), (0, u "()V"), (1, .class_ 10), (1, u "java/lang/Object")] 113

def k0c0 : Code := { maxStack := 0, maxLocals := 1, code := object_method_1_code, exceptionTable := #[], attributes := #[] }
def k0m0 : Method := { name := "<init>", desc := "()V", sig := { parameters := [], returnType := none }, accessFlags := 1, code := some k0c0 }
/-- java/lang/Object -/
def k0 : Class := { plain "java/lang/Object" none with
  accessFlags := 33
  interfaces := #[]
  cf := some (fileOf pool0 8 #[] #[{ accessFlags := 1, nameIndex := 5, descriptorIndex := 6, attributes := #[] }] 33 0 #[] #[])
  fields := #[]
  methods := #[k0m0]
  instanceTypes := #[]
  staticTypes := #[]
  resolved := Array.replicate 124 none
  statics := none }

def pool1 : Array CpInfo := pool [(2, .class_ 4), (1, u "java/lang/Object"), (0, u "<init>"), (0, u "()V"), (0, .long 4611686018427387903), (1, .long 4611686018427387904), (1, .integer 1073741823), (0, .integer 1073741824), (0, .class_ 14), (0, u "com/example/lienwright/lienwright/LevelPayment$Binary"), (0, .methodref 13 16), (0, .nameAndType 5 17), (0, u "(JI)V"), (0, .methodref 13 19), (0, .nameAndType 20 21), (0, u "roundedHalfUp"), (0, u "()J"), (0, .methodref 23 24), (0, .class_ 25), (0, .nameAndType 26 27), (0, u "com/example/lienwright/lienwright/BinaryRoundedHalfUpPinLaw"), (0, u "expected"), (0, u "(JI)J"), (2, u "law"), (0, u "(JI)Z")] 7

def k1m0 : Method := { name := "<init>", desc := "()V", sig := { parameters := [], returnType := none }, accessFlags := 2, code := none }
def k1c1 : Code := { maxStack := 5, maxLocals := 9, code := code, exceptionTable := #[], attributes := #[] }
def k1m1 : Method := { name := "law", desc := "(JI)Z", sig := { parameters := [.long, .int], returnType := some .boolean }, accessFlags := 9, code := some k1c1 }
def k1c2 : Code := { maxStack := 6, maxLocals := 12, code := method_3_code, exceptionTable := #[], attributes := #[] }
def k1m2 : Method := { name := "expected", desc := "(JI)J", sig := { parameters := [.long, .int], returnType := some .long }, accessFlags := 10, code := some k1c2 }
/-- com/example/lienwright/lienwright/BinaryRoundedHalfUpPinLaw -/
def k1 : Class := { plain "com/example/lienwright/lienwright/BinaryRoundedHalfUpPinLaw" (some 0) with
  accessFlags := 49
  interfaces := #[]
  cf := some (fileOf pool1 23 #[] #[{ accessFlags := 2, nameIndex := 5, descriptorIndex := 6, attributes := #[] }, { accessFlags := 9, nameIndex := 30, descriptorIndex := 31, attributes := #[] }, { accessFlags := 10, nameIndex := 26, descriptorIndex := 27, attributes := #[] }] 49 2 #[] #[])
  fields := #[]
  methods := #[k1m0, k1m1, k1m2]
  instanceTypes := #[]
  staticTypes := #[]
  resolved := Array.replicate 39 none
  statics := none }

def pool2 : Array CpInfo := pool [(1, .methodref 2 3), (0, .class_ 4), (0, .nameAndType 5 6), (0, u "java/lang/Object"), (0, u "<init>"), (0, u "()V"), (0, .class_ 8), (0, u "java/lang/Record")] 13

def k2c0 : Code := { maxStack := 1, maxLocals := 1, code := jdk_30_method_1_code, exceptionTable := #[], attributes := #[] }
def k2m0 : Method := { name := "<init>", desc := "()V", sig := { parameters := [], returnType := none }, accessFlags := 4, code := some k2c0 }
/-- java/lang/Record -/
def k2 : Class := { plain "java/lang/Record" (some 0) with
  accessFlags := 1057
  interfaces := #[]
  cf := some (fileOf pool2 7 #[] #[{ accessFlags := 4, nameIndex := 5, descriptorIndex := 6, attributes := #[] }] 1057 2 #[] #[])
  fields := #[]
  methods := #[k2m0]
  instanceTypes := #[]
  staticTypes := #[]
  resolved := Array.replicate 22 none
  statics := none }

def pool3 : Array CpInfo := pool [(1, .class_ 2), (0, u "com/example/lienwright/lienwright/LevelPayment$Binary"), (0, .methodref 4 5), (0, .class_ 6), (0, .nameAndType 7 8), (0, u "java/lang/Record"), (0, u "<init>"), (0, u "()V"), (0, .fieldref 1 10), (0, .nameAndType 11 12), (0, u "mantissa"), (0, u "J"), (0, .fieldref 1 14), (0, .nameAndType 15 16), (0, u "exponent"), (0, u "I"), (8, u "(JI)V"), (50, u "POINT"), (2, u "ONE"), (0, u "FRACTION_STEP_BITS"), (1, u "QUOTIENT_STEP_BITS"), (1, u "WHOLE_BITS"), (16, u "roundedHalfUp"), (0, u "()J"), (6, .class_ 110), (0, u "com/example/lienwright/lienwright/LevelPayment")] 20

def k3c0 : Code := { maxStack := 3, maxLocals := 4, code := prog_36_method_1_code, exceptionTable := #[], attributes := #[] }
def k3m0 : Method := { name := "<init>", desc := "(JI)V", sig := { parameters := [.long, .int], returnType := none }, accessFlags := 0, code := some k3c0 }
def k3c1 : Code := { maxStack := 6, maxLocals := 4, code := prog_36_method_12_code, exceptionTable := #[], attributes := #[] }
def k3m1 : Method := { name := "roundedHalfUp", desc := "()J", sig := { parameters := [], returnType := some .long }, accessFlags := 0, code := some k3c1 }
/-- com/example/lienwright/lienwright/LevelPayment$Binary -/
def k3 : Class := { plain "com/example/lienwright/lienwright/LevelPayment$Binary" (some 2) with
  accessFlags := 48
  interfaces := #[]
  cf := some (fileOf pool3 1 #[.nestHost 109] #[{ accessFlags := 0, nameIndex := 7, descriptorIndex := 25, attributes := #[] }, { accessFlags := 0, nameIndex := 101, descriptorIndex := 102, attributes := #[] }] 48 4 #[] #[{ accessFlags := 18, nameIndex := 11, descriptorIndex := 12, attributes := #[] }, { accessFlags := 18, nameIndex := 15, descriptorIndex := 16, attributes := #[] }, { accessFlags := 26, nameIndex := 76, descriptorIndex := 16, attributes := #[] }, { accessFlags := 26, nameIndex := 79, descriptorIndex := 12, attributes := #[] }, { accessFlags := 26, nameIndex := 80, descriptorIndex := 16, attributes := #[] }, { accessFlags := 26, nameIndex := 82, descriptorIndex := 16, attributes := #[] }, { accessFlags := 24, nameIndex := 84, descriptorIndex := 16, attributes := #[] }])
  fields := #[{ name := "mantissa", type := .long, accessFlags := 18, slot := 0, constantValue := 0 }, { name := "exponent", type := .int, accessFlags := 18, slot := 1, constantValue := 0 }, { name := "POINT", type := .int, accessFlags := 26, slot := 0, constantValue := 0 }, { name := "ONE", type := .long, accessFlags := 26, slot := 1, constantValue := 0 }, { name := "FRACTION_STEP_BITS", type := .int, accessFlags := 26, slot := 2, constantValue := 0 }, { name := "QUOTIENT_STEP_BITS", type := .int, accessFlags := 26, slot := 3, constantValue := 0 }, { name := "WHOLE_BITS", type := .int, accessFlags := 24, slot := 4, constantValue := 0 }]
  methods := #[k3m0, k3m1]
  instanceTypes := #[.long, .int]
  staticTypes := #[.int, .long, .int, .int, .int]
  resolved := Array.replicate 131 none
  statics := none }

def pool4 : Array CpInfo := pool [(1, u "java/lang/Cloneable"), (0, .class_ 1), (0, u "java/lang/Object"), (0, .class_ 3)] 3

/-- java/lang/Cloneable -/
def k4 : Class := { plain "java/lang/Cloneable" (some 0) with
  accessFlags := 1537
  interfaces := #[]
  cf := some (fileOf pool4 2 #[] #[] 1537 4 #[] #[])
  fields := #[]
  methods := #[]
  instanceTypes := #[]
  staticTypes := #[]
  resolved := Array.replicate 8 none
  statics := none }

def pool5 : Array CpInfo := pool [(1, u "java/io/Serializable"), (0, .class_ 1), (0, u "java/lang/Object"), (0, .class_ 3)] 3

/-- java/io/Serializable -/
def k5 : Class := { plain "java/io/Serializable" (some 0) with
  accessFlags := 1537
  interfaces := #[]
  cf := some (fileOf pool5 2 #[] #[] 1537 4 #[] #[])
  fields := #[]
  methods := #[]
  instanceTypes := #[]
  staticTypes := #[]
  resolved := Array.replicate 8 none
  statics := none }

/-- the primitive byte -/
def k6 : Class := { plain "byte" none with kind := .primitive 'B', accessFlags := 0x411 }
/-- [B -/
def k7 : Class := { plain "[B" (some 0) with kind := .array 6 .byte, interfaces := #[4, 5], accessFlags := 1041 }

/-- the primitive int -/
def k8 : Class := { plain "int" none with kind := .primitive 'I', accessFlags := 0x411 }
/-- [I -/
def k9 : Class := { plain "[I" (some 0) with kind := .array 8 .int, interfaces := #[4, 5], accessFlags := 1041 }

def heap : Heap := #[]
def classes : Array Class := #[k0, k1, k2, k3, k4, k5, k6, k7, k8, k9]
def interned : List (Array UInt16 × Addr) := []
def slotsUsed : Nat := 0
def theMethod : MethodId := ⟨1, 1⟩
def args0 : Array Value := #[.long 5, .int 3]
def aboutOver (below : List Frame) : State where
  vm := { classes := classes, interned := interned.toArray }
  heap := heap
  slotsUsed := slotsUsed
  threads := #[{ frames := .invoking theMethod args0 :: below }]
def below0 : List Frame := [.native { method := ⟨0, 0⟩, args := #[] }]
def about1 : State := aboutOver below0
def p0 : Program := .bare "" "" ""
def e0 : Env := launch0.env 0 0 0
theorem w_frames : about1.frames = Frame.invoking theMethod args0 :: below0 := rfl
set_option maxRecDepth 65536 in
theorem w_args : argsFit about1.vm theMethod args0 = true := by decide +kernel
set_option maxRecDepth 65536 in
theorem w_heap : heapFits about1 = true := by decide +kernel
set_option maxRecDepth 65536 in
theorem w_runnable : about1.curStatus? = some .runnable := by decide +kernel
set_option maxRecDepth 65536 in
theorem w_alone : about1.alone = true := by decide +kernel
set_option maxRecDepth 65536 in
theorem w_named : about1.methodNamed? x = some theMethod := by decide +kernel
set_option maxRecDepth 65536 in
theorem w_hears : about1.hears theMethod below0 = true := by decide +kernel
set_option maxRecDepth 65536 in
theorem w_ripe : about1.ripe theMethod args0 below0 = true := by decide +kernel
theorem w_running : about1.status = .running := rfl
set_option maxRecDepth 65536 in
theorem w_room : about1.hasRoom e0.platform room_1 = true :=
  launch0.hasRoom_least _ room_1 (by decide +kernel) (by decide +kernel) (by decide +kernel) (by decide +kernel) (by decide +kernel) (by decide +kernel)
theorem allAtoms_all (ts : List Jvm.Cond) (a : Array Jvm.Value) (st : Jvm.State) : (allAtoms ts).before a st = ts.all (fun c => c.before a st) := by
  induction ts with
  | nil => rfl
  | cons c t ih =>
    show (Jvm.Cond.and c (allAtoms t)).before a st = _
    rw [Jvm.Cond.before_and, ih, List.all_cons]
def words1 : List Jvm.Cond := Jvm.Cond.code x code maxLocals ret :: tables_1
/-- a 'code' word, met by the world's own term for the bytes: nothing is compared byte by byte -/
theorem code_word {y : MethodName} {bytes : ByteArray} {mx : Nat} {rt : Option FieldType} {a : Array Value} {s : State} {m : MethodId} {meth : Method} {c : Code} (h1 : s.methodNamed? y = some m) (h2 : s.vm.method? m = some meth) (h3 : meth.code = some c) (h4 : c.code = bytes)
    (h5 : (c.maxLocals == mx && c.exceptionTable.isEmpty && decide (c.maxStack ≤ mostOperands) && decide (meth.sig.returnType = rt) && !meth.locks && decide (parseMethodDescriptor y.desc = some meth.sig)) = true) : (Jvm.Cond.code y bytes mx rt).before a s = true := by
  simp only [Bool.and_eq_true, beq_iff_eq, Bool.not_eq_true', decide_eq_true_eq] at h5
  obtain ⟨⟨⟨⟨⟨g1, g2⟩, g3⟩, g4⟩, g5⟩, g6⟩ := h5
  simp [Cond.before, Cond.holds, Cond.value, h1, h2, h3, h4, g1, g2, g3, g4, g5, g6]
def isCode : Jvm.Cond → Bool
  | .code _ _ _ _ => true
  | _ => false
theorem all_split {L : List Jvm.Cond} {P : Jvm.Cond → Bool} (h1 : L.all (fun c => isCode c || P c) = true) (h2 : ∀ c ∈ L.filter isCode, P c = true) : L.all P = true := by
  refine List.all_eq_true.mpr fun c hc => ?_
  have h := List.all_eq_true.mp h1 c hc
  rcases Bool.eq_false_or_eq_true (isCode c) with hi | hi
  · exact h2 c (List.mem_filter.mpr ⟨hc, hi⟩)
  · simpa [hi] using h
set_option maxRecDepth 65536 in
theorem w_c0 : (Jvm.Cond.code x code maxLocals ret).before args0 about1 = true := code_word (m := ⟨1, 1⟩) (meth := k1m1) (c := k1c1) (by decide +kernel) rfl rfl rfl (by decide +kernel)
set_option maxRecDepth 65536 in
theorem w_c1 : (Jvm.Cond.code ({ cls := "com/example/lienwright/lienwright/LevelPayment$Binary", name := "<init>", desc := "(JI)V" } : Jvm.MethodName) prog_36_method_1_code (4 : Nat) (Option.none : Option Jvm.ClassFile.FieldType)).before args0 about1 = true := code_word (m := ⟨3, 0⟩) (meth := k3m0) (c := k3c0) (by decide +kernel) rfl rfl rfl (by decide +kernel)
set_option maxRecDepth 65536 in
theorem w_c2 : (Jvm.Cond.code ({ cls := "java/lang/Record", name := "<init>", desc := "()V" } : Jvm.MethodName) jdk_30_method_1_code (1 : Nat) (Option.none : Option Jvm.ClassFile.FieldType)).before args0 about1 = true := code_word (m := ⟨2, 0⟩) (meth := k2m0) (c := k2c0) (by decide +kernel) rfl rfl rfl (by decide +kernel)
set_option maxRecDepth 65536 in
theorem w_c3 : (Jvm.Cond.code ({ cls := "java/lang/Object", name := "<init>", desc := "()V" } : Jvm.MethodName) object_method_1_code (1 : Nat) (Option.none : Option Jvm.ClassFile.FieldType)).before args0 about1 = true := code_word (m := ⟨0, 0⟩) (meth := k0m0) (c := k0c0) (by decide +kernel) rfl rfl rfl (by decide +kernel)
set_option maxRecDepth 65536 in
theorem w_c4 : (Jvm.Cond.code ({ cls := "com/example/lienwright/lienwright/LevelPayment$Binary", name := "roundedHalfUp", desc := "()J" } : Jvm.MethodName) prog_36_method_12_code (4 : Nat) (Option.some Jvm.ClassFile.FieldType.long)).before args0 about1 = true := code_word (m := ⟨3, 1⟩) (meth := k3m1) (c := k3c1) (by decide +kernel) rfl rfl rfl (by decide +kernel)
set_option maxRecDepth 65536 in
theorem w_c5 : (Jvm.Cond.code ({ cls := "com/example/lienwright/lienwright/BinaryRoundedHalfUpPinLaw", name := "expected", desc := "(JI)J" } : Jvm.MethodName) method_3_code (12 : Nat) (Option.some Jvm.ClassFile.FieldType.long)).before args0 about1 = true := code_word (m := ⟨1, 2⟩) (meth := k1m2) (c := k1c2) (by decide +kernel) rfl rfl rfl (by decide +kernel)
def codes1 : List Jvm.Cond := [Jvm.Cond.code x code maxLocals ret, Jvm.Cond.code ({ cls := "com/example/lienwright/lienwright/LevelPayment$Binary", name := "<init>", desc := "(JI)V" } : Jvm.MethodName) prog_36_method_1_code (4 : Nat) (Option.none : Option Jvm.ClassFile.FieldType), Jvm.Cond.code ({ cls := "java/lang/Record", name := "<init>", desc := "()V" } : Jvm.MethodName) jdk_30_method_1_code (1 : Nat) (Option.none : Option Jvm.ClassFile.FieldType), Jvm.Cond.code ({ cls := "java/lang/Object", name := "<init>", desc := "()V" } : Jvm.MethodName) object_method_1_code (1 : Nat) (Option.none : Option Jvm.ClassFile.FieldType), Jvm.Cond.code ({ cls := "com/example/lienwright/lienwright/LevelPayment$Binary", name := "roundedHalfUp", desc := "()J" } : Jvm.MethodName) prog_36_method_12_code (4 : Nat) (Option.some Jvm.ClassFile.FieldType.long), Jvm.Cond.code ({ cls := "com/example/lienwright/lienwright/BinaryRoundedHalfUpPinLaw", name := "expected", desc := "(JI)J" } : Jvm.MethodName) method_3_code (12 : Nat) (Option.some Jvm.ClassFile.FieldType.long)]
set_option maxRecDepth 65536 in
theorem codes_eq : words1.filter isCode = codes1 := rfl
theorem w_codes : ∀ c ∈ words1.filter isCode, c.before args0 about1 = true := by
  rw [codes_eq]
  intro c hc
  simp only [codes1, List.mem_cons, List.not_mem_nil, or_false] at hc
  rcases hc with rfl | rfl | rfl | rfl | rfl | rfl
  · exact w_c0
  · exact w_c1
  · exact w_c2
  · exact w_c3
  · exact w_c4
  · exact w_c5
set_option maxRecDepth 65536 in
theorem w_t1 : (words1.take 24).all (fun c => isCode c || c.before args0 about1) = true := by decide +kernel
set_option maxRecDepth 65536 in
theorem w_t2 : (words1.drop 24).all (fun c => isCode c || c.before args0 about1) = true := by decide +kernel
theorem w_tables : (allAtoms (Jvm.Cond.code x code maxLocals ret :: tables_1)).before args0 about1 = true := by
  rw [allAtoms_all]
  show words1.all (fun c => c.before args0 about1) = true
  refine all_split ?_ w_codes
  rw [← List.take_append_drop 24 words1, List.all_append, w_t1, w_t2]
  rfl
set_option maxRecDepth 65536 in
theorem w_case : (Jvm.Cond.and given_1 narrow_1).before args0 about1 = true := by decide +kernel
theorem w_applies : (headSpec (Jvm.Cond.code x code maxLocals ret :: tables_1) room_1).applies x e0.platform about1 = true :=
  (Spec.applies_iff w_frames).mpr ⟨w_running, w_runnable, w_alone, w_named, w_hears, w_ripe, w_room, w_tables⟩
theorem atStart : AtStart classFile x code maxLocals ret World_1 tables_1 room_1 Calls_1 rest_1 Pre_1 launch0 p0 e0 about1 theMethod args0 below0 :=
  ⟨lists_1, trivial, launch0.admits_env _ _ _, launch0.least_env, fairChoices_fair.cas, fairChoices_fair.clock, w_frames, w_args, w_heap, w_applies, trivial, trivial, w_case⟩
end start1
theorem witness_1 : WitnessClaimed_1 := ⟨start1.p0, start1.e0, start1.about1, start1.theMethod, start1.args0, start1.below0, start1.atStart⟩
end Jvm.Pilot.@@N@@
