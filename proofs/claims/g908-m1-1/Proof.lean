import JvmDerived
import JvmDerived.Pilot.@@N@@Statement
import JvmDerived.Pilot.@@N@@Code
set_option linter.unusedVariables false
set_option linter.unusedSimpArgs false
namespace Jvm.Pilot.@@N@@
open Jvm Jvm.ClassFile Sem Op Lib Jvm.Free Jvm.Stand Jvm.LawKit Jvm.RoadKit Bundle Jvm.Pilot.@@N@@.Jvm.D
/-! my own layer: a body's walk by a predicate on states (go: one step on, fin: a return), arrays by their elements -/
theorem own_metfree {l : Launch} {x : MethodName} {ws : List Jvm.Cond} {R : Room} {code : ByteArray} {maxL : Nat} {ret : Option FieldType} {as' : Array Value} {Z : State} {h0 : Heap} {Q : Option Value → Heap → List Loc → Prop} (hpl : plainFor x = true)
    (body : ∀ (p : Program) (e : Env) (s : State) (m : MethodId) (below : List Frame) (meth : Method) (c : Code) (s₁ : State),
      Stand p l e R s m as' below meth c s₁ [] 0 0 → p.tables.exec = Jvm.exec → c.code = code → c.maxLocals = maxL → meth.sig.returnType = ret → s.vm.findClass x.cls = some m.cls → meth.name = x.name → Z.Warmed39 s.vm → s₁.heap = h0 →
      ∀ G : State → Prop, (∀ U U', (∀ t, Steps p.tables e below U' t → Steps p.tables e below U t) → G U' → G U) →
        (∀ {T : State} {locs : List Loc} {cells slots : Nat} (v : Option Value) (g : JFrame), Stand p l e R s m as' below meth c T locs cells slots → (ret = none → v = none) →
          (∀ fs, (∀ (f : JFrame) (acts : List Action), f.method = m → f.locked = none → f.entered = [] → (doReturn e (T.setTop f) acts v).1 = T.setFrames fs) → Steps p.tables e below (T.setTop g) (T.setFrames fs)) →
          Q v T.heap locs → cells ≤ R.cells → slots ≤ R.slots → G (T.setTop g)) →
        G (s₁.setTop (entryFrame m as' maxL))) :
    MetFree l x (head1 (Jvm.Cond.code x code maxL ret :: ws) R) (fun a U => a = as' ∧ Z.Warmed39 U.vm ∧ U.heap = h0) (fun _ _ _ _ _ => True) (fun _ U o U' => ∃ v L, o = .returned v ∧ Q v U'.heap L ∧ FrameEnd U o U' L R.cells R.slots) := by
  refine MetFree.of_bodySF hpl hisR ?_
  intro p e s m args below meth c s₁ Bd hml0 hP hK
  obtain ⟨rfl, hZ, hh⟩ := hP
  have X0 : Stand p l e R s m args below meth c s₁ [] 0 0 := Stand.of_body Bd
  refine body p e s m below meth c s₁ X0 Bd.exec Bd.bytes hml0 Bd.returns (findClass_of_methodNamed Bd.named) (name_of_methodNamed Bd.named Bd.method).1 hZ (by rw [← hh, Bd.state]; rfl)
    (fun U => ∃ s₂ o, Steps p.tables e below U s₂ ∧ s₂.status = .running ∧ Ended s₂ below o ∧ ∃ v L, o = .returned v ∧ Q v s₂.heap L ∧ FrameEnd s o s₂ L R.cells R.slots) ?_ ?_
  · rintro U U' h ⟨s₂, o, h1, h2⟩
    exact ⟨s₂, o, h _ h1, h2⟩
  · intro T locs cells slots v g X hv hst hq hc hs
    obtain ⟨fs, hr, hrun, hended, hW, hsame⟩ := X.leave (v := v) (by rw [Bd.returns]; exact hv)
    exact ⟨_, _, hst fs hr, hrun, hended, _, _, rfl, hq, ⟨_, rfl⟩, hW, hsame.mono hc hs⟩
theorem own_lrem {tb : Tables} [Ours tb] {e : Env} {below : List Frame} {T target : State} {m : MethodId} {c : Code} {g : JFrame} (h : At T m c below) (hx : tb.exec = Jvm.exec) (hg : g.method = m) {x y : Int64} {rest : List Value} (hd : decode c.code g.pc = .ok (.lrem, 1)) (hs : g.stack = .long y :: .long x :: rest) (hy : y ≠ 0)
    (hr : Steps tb e below (T.setTop { g with pc := g.pc + 1, stack := .long (x % y) :: rest }) target) : Steps tb e below (T.setTop g) target :=
  XS.lrem h hx hg hd hs hy (by rw [lrem_mod]; exact hr)
def own_G (a b : Int64) : Nat := Nat.gcd a.toInt.toNat b.toInt.toNat
def own_g (a b : Int64) : Int64 := Int64.ofInt (own_G a b : Nat)
theorem own_Gb {a b : Int64} (ha : 0 ≤ a.toInt) (hb : 0 ≤ b.toInt) : ((own_G a b : Nat) : Int) < 9223372036854775808 := by
  have r1 := rng64 a
  have r2 := rng64 b
  rw [own_G]
  by_cases h : a.toInt.toNat = 0
  · rw [h, Nat.gcd_zero_left]; omega
  · have := Nat.gcd_le_left b.toInt.toNat (Nat.pos_of_ne_zero h)
    omega
theorem own_gt {a b : Int64} (ha : 0 ≤ a.toInt) (hb : 0 ≤ b.toInt) : (own_g a b).toInt = (own_G a b : Nat) := by
  have := own_Gb ha hb
  rw [own_g, Int64.toInt_ofInt_of_le (by omega) (by omega)]
theorem own_mod {a b : Int64} (ha : 0 ≤ a.toInt) (hb : 0 ≤ b.toInt) (h : ¬ b = (0 : Int64)) : (a % b).toInt.toNat = a.toInt.toNat % b.toInt.toNat ∧ 0 ≤ (a % b).toInt ∧ (a % b).toInt < b.toInt := by
  have k0 : (0 : Int64).toInt = 0 := by decide
  have h1 : b.toInt ≠ 0 := fun q => h (Int64.toInt_inj.mp (by rw [q, k0]))
  have h2 : (a % b).toInt = a.toInt % b.toInt := by rw [Int64.toInt_mod, Int.tmod_eq_emod_of_nonneg ha]
  have h3 := Int.emod_nonneg a.toInt h1
  have h4 := Int.emod_lt_of_pos a.toInt (show 0 < b.toInt by omega)
  refine ⟨?_, by omega, by omega⟩
  rw [h2, Int.toNat_emod ha hb]
def own_I (q0 q1 a b : Int64) : Prop := 0 ≤ a.toInt ∧ 0 ≤ b.toInt ∧ own_G a b = own_G q0 q1
theorem own_Is {q0 q1 a b : Int64} (hI : own_I q0 q1 a b) (h : ¬ b = (0 : Int64)) : own_I q0 q1 b (a % b) := by
  obtain ⟨h1, h2, h3⟩ := hI
  obtain ⟨m1, m2, m3⟩ := own_mod h1 h2 h
  refine ⟨h2, m2, ?_⟩
  rw [← h3, own_G, own_G, m1, Nat.gcd_comm b.toInt.toNat, ← Nat.gcd_rec, Nat.gcd_comm]
theorem own_Im {q0 q1 a b : Int64} {k : Nat} (hI : own_I q0 q1 a b) (h : ¬ b = (0 : Int64)) (hk : b.toInt.toNat < k + 1) : (a % b).toInt.toNat < k := by
  obtain ⟨m1, m2, m3⟩ := own_mod hI.1 hI.2.1 h
  omega
theorem own_Ie {q0 q1 a b : Int64} (hI : own_I q0 q1 a b) (h : b = (0 : Int64)) : a = own_g q0 q1 := by
  obtain ⟨h1, h2, h3⟩ := hI
  subst h
  have k0 : (0 : Int64).toInt = 0 := by decide
  rw [own_g, ← h3, own_G, k0]
  simp only [Int.toNat_zero, Nat.gcd_zero_right]
  rw [Int.toNat_of_nonneg h1, Int64.ofInt_toInt]
theorem own_nn (q : Int64) : 0 ≤ (q &&& (9223372036854775807 : Int64)).toInt := by
  have h1 := c_maskL q (9223372036854775807 : Int64) 63 (by decide) (by decide)
  omega
section OwnLaw
variable {x y g : Int64}
theorem own_a1 (hx : 0 ≤ x.toInt) (hy : 0 ≤ y.toInt) (h1 : x = (0 : Int64)) (h2 : y = (0 : Int64)) : own_g x y = (0 : Int64) := by
  subst h1 h2; decide
theorem own_a2 (hx : 0 ≤ x.toInt) (hy : 0 ≤ y.toInt) (h : ¬ x = (0 : Int64) ∨ ¬ y = (0 : Int64)) : (0 : Int64) < own_g x y := by
  have k0 : (0 : Int64).toInt = 0 := by decide
  rw [Int64.lt_iff_toInt_lt, own_gt hx hy, k0]
  have : 0 < own_G x y := by
    rw [own_G]
    rcases h with h | h
    · exact Nat.gcd_pos_of_pos_left _ (by
        have : x.toInt ≠ 0 := fun q => h (Int64.toInt_inj.mp (by rw [q, k0]))
        omega)
    · exact Nat.gcd_pos_of_pos_right _ (by
        have : y.toInt ≠ 0 := fun q => h (Int64.toInt_inj.mp (by rw [q, k0]))
        omega)
  omega
theorem own_pn (h : (0 : Int64) < g) : g ≠ 0 := by rintro rfl; exact absurd h (by decide)
theorem own_dvd (hx : 0 ≤ x.toInt) (hg : (0 : Int64) < g) (h : g.toInt.toNat ∣ x.toInt.toNat) : x % g = (0 : Int64) := by
  have k0 : (0 : Int64).toInt = 0 := by decide
  have h0 := own_pn hg
  rw [Int64.lt_iff_toInt_lt, k0] at hg
  obtain ⟨m1, m2, m3⟩ := own_mod hx (by omega) h0
  apply Int64.toInt_inj.mp
  rw [Nat.mod_eq_zero_of_dvd h] at m1
  omega
theorem own_a3 (hx : 0 ≤ x.toInt) (hy : 0 ≤ y.toInt) (h : (0 : Int64) < own_g x y) : x % own_g x y = (0 : Int64) :=
  own_dvd hx h (by rw [own_gt hx hy, Int.toNat_natCast]; exact Nat.gcd_dvd_left _ _)
theorem own_a4 (hx : 0 ≤ x.toInt) (hy : 0 ≤ y.toInt) (h : (0 : Int64) < own_g x y) : y % own_g x y = (0 : Int64) :=
  own_dvd hy h (by rw [own_gt hx hy, Int.toNat_natCast]; exact Nat.gcd_dvd_right _ _)
theorem own_div {a b : Int64} (ha : 0 ≤ a.toInt) (hb : (0 : Int64) < b) : (a / b).toInt.toNat = a.toInt.toNat / b.toInt.toNat ∧ 0 ≤ (a / b).toInt := by
  have k0 : (0 : Int64).toInt = 0 := by decide
  have h1 : b ≠ -1 := by rintro rfl; exact absurd hb (by decide)
  rw [Int64.lt_iff_toInt_lt, k0] at hb
  have h2 : (a / b).toInt = a.toInt / b.toInt := by rw [Int64.toInt_div_of_ne_right a b h1, Int.tdiv_eq_ediv_of_nonneg ha]
  have h3 : 0 ≤ a.toInt / b.toInt := Int.ediv_nonneg ha (by omega)
  refine ⟨?_, by omega⟩
  rw [h2]
  obtain ⟨n, hn⟩ := Int.eq_ofNat_of_zero_le ha
  obtain ⟨k, hk⟩ := Int.eq_ofNat_of_zero_le (show 0 ≤ b.toInt by omega)
  rw [hn, hk, ← Int.natCast_ediv]
  rfl
theorem own_a5 (hx : 0 ≤ x.toInt) (hy : 0 ≤ y.toInt) (h : (0 : Int64) < own_g x y) : own_g (x / own_g x y) (y / own_g x y) = (1 : Int64) := by
  have k0 : (0 : Int64).toInt = 0 := by decide
  have k1 : (1 : Int64).toInt = 1 := by decide
  obtain ⟨d1, d2⟩ := own_div hx h
  obtain ⟨e1, e2⟩ := own_div hy h
  have hG : 0 < own_G x y := by
    rw [Int64.lt_iff_toInt_lt, k0, own_gt hx hy] at h
    omega
  rw [own_gt hx hy, Int.toNat_natCast] at d1 e1
  apply Int64.toInt_inj.mp
  rw [own_gt d2 e2, k1]
  have : own_G (x / own_g x y) (y / own_g x y) = 1 := by
    rw [own_G, d1, e1]
    show Nat.gcd (x.toInt.toNat / Nat.gcd x.toInt.toNat y.toInt.toNat) (y.toInt.toNat / Nat.gcd x.toInt.toNat y.toInt.toNat) = 1
    rw [Nat.gcd_div (Nat.gcd_dvd_left _ _) (Nat.gcd_dvd_right _ _)]
    exact Nat.div_self hG
  omega
theorem own_a6 : own_g y x = own_g x y := by rw [own_g, own_g, own_G, own_G, Nat.gcd_comm]
theorem own_a7 (hx : 0 ≤ x.toInt) : own_g x (0 : Int64) = x := by
  have k0 : (0 : Int64).toInt = 0 := by decide
  rw [own_g, own_G, k0]
  simp only [Int.toNat_zero, Nat.gcd_zero_right]
  rw [Int.toNat_of_nonneg hx, Int64.ofInt_toInt]
theorem own_a8 (hx : 0 ≤ x.toInt) : own_g (0 : Int64) x = x := by rw [own_a6, own_a7 hx]
end OwnLaw
theorem own_m (q : Int64) : 1 ≤ ((q &&& (2147483647 : Int64)) + (1 : Int64)).toInt ∧ ((q &&& (2147483647 : Int64)) + (1 : Int64)).toInt ≤ 2147483648 := by
  have k1 : (1 : Int64).toInt = 1 := by decide
  have h1 := c_maskL q (2147483647 : Int64) 31 (by decide) (by decide)
  have h2 := c_ladd (q &&& (2147483647 : Int64)) (1 : Int64)
  have h3 := rng64 ((q &&& (2147483647 : Int64)) + (1 : Int64))
  omega
theorem own_k (q : Int64) : 0 ≤ (q &&& (2147483647 : Int64)).toInt ∧ (q &&& (2147483647 : Int64)).toInt ≤ 2147483647 := by
  have h1 := c_maskL q (2147483647 : Int64) 31 (by decide) (by decide)
  omega
theorem own_mul {m k : Int64} (hm : 1 ≤ m.toInt ∧ m.toInt ≤ 2147483648) (hk : 0 ≤ k.toInt ∧ k.toInt ≤ 2147483648) : (m * k).toInt = m.toInt * k.toInt := by
  have h1 := c_lmul m k
  have h2 := rng64 (m * k)
  have h3 : m.toInt * k.toInt ≤ 2147483648 * 2147483648 := Int.mul_le_mul hm.2 hk.2 hk.1 (by decide)
  have h4 : 0 ≤ m.toInt * k.toInt := Int.mul_nonneg (by omega) hk.1
  omega
theorem own_k1 {k : Int64} (hk : 0 ≤ k.toInt ∧ k.toInt ≤ 2147483647) : (k + (1 : Int64)).toInt = k.toInt + 1 := by
  have k1 : (1 : Int64).toInt = 1 := by decide
  have h2 := c_ladd k (1 : Int64)
  have h3 := rng64 (k + (1 : Int64))
  omega
theorem own_succ (n : Nat) : Nat.gcd n (n + 1) = 1 := by simp
theorem own_pq {m k : Int64} (hm : 1 ≤ m.toInt ∧ m.toInt ≤ 2147483648) (hk : 0 ≤ k.toInt ∧ k.toInt ≤ 2147483647) : 0 ≤ (m * k).toInt ∧ 0 ≤ (m * (k + (1 : Int64))).toInt ∧ own_g (m * k) (m * (k + (1 : Int64))) = m := by
  have e1 := own_mul hm ⟨hk.1, by omega⟩
  have e2 := own_k1 hk
  have e3 := own_mul (k := k + (1 : Int64)) hm (by omega)
  have n1 : 0 ≤ m.toInt * k.toInt := Int.mul_nonneg (by omega) hk.1
  have n2 : 0 ≤ m.toInt * (k.toInt + 1) := Int.mul_nonneg (by omega) (by omega)
  rw [e2] at e3
  refine ⟨by omega, by omega, ?_⟩
  apply Int64.toInt_inj.mp
  rw [own_gt (by omega) (by omega), own_G, e1, e3, Int.toNat_mul (by omega) hk.1, Int.toNat_mul (by omega) (by omega), Nat.gcd_mul_left]
  have : (k.toInt + 1).toNat = k.toInt.toNat + 1 := by omega
  rw [this, own_succ, Nat.mul_one]
  omega

theorem own_ef1 (m : MethodId) (q0 : Int64) (q1 : Int64) : entryFrame m #[(.long q0), (.long q1)] 10 = mkF m 0 #[.val (.long q0), .second, .val (.long q1), .second, .unset, .unset, .unset, .unset, .unset, .unset] [] := by first | (simp [entryFrame, mkF, argsToLocals, Value.category]; done) | rfl
theorem own_pn1 : plainName "com/example/debbit/debbit/budgets/WholeNumbers" = true := by first | (simp [plainName, overriddenIn]; done) | decide +kernel
theorem d1_0 : decode prog_11_method_2_code 0 = .ok (.lload_n 0, 1) := by decide +kernel
theorem d1_1 : decode prog_11_method_2_code 1 = .ok (.lstore 4, 2) := by decide +kernel
theorem d1_3 : decode prog_11_method_2_code 3 = .ok (.lload_n 2, 1) := by decide +kernel
theorem d1_4 : decode prog_11_method_2_code 4 = .ok (.lstore 6, 2) := by decide +kernel
theorem d1_6 : decode prog_11_method_2_code 6 = .ok (.lload 6, 2) := by decide +kernel
theorem d1_8 : decode prog_11_method_2_code 8 = .ok (.lconst 0, 1) := by decide +kernel
theorem d1_9 : decode prog_11_method_2_code 9 = .ok (.lcmp, 1) := by decide +kernel
theorem d1_10 : decode prog_11_method_2_code 10 = .ok (.ifCond .eq 21, 3) := by decide +kernel
theorem d1_31 : decode prog_11_method_2_code 31 = .ok (.lload 4, 2) := by decide +kernel
theorem d1_33 : decode prog_11_method_2_code 33 = .ok (.lreturn, 1) := by decide +kernel
theorem d1_13 : decode prog_11_method_2_code 13 = .ok (.lload 4, 2) := by decide +kernel
theorem d1_15 : decode prog_11_method_2_code 15 = .ok (.lload 6, 2) := by decide +kernel
theorem d1_17 : decode prog_11_method_2_code 17 = .ok (.lrem, 1) := by decide +kernel
theorem d1_18 : decode prog_11_method_2_code 18 = .ok (.lstore 8, 2) := by decide +kernel
theorem d1_20 : decode prog_11_method_2_code 20 = .ok (.lload 6, 2) := by decide +kernel
theorem d1_22 : decode prog_11_method_2_code 22 = .ok (.lstore 4, 2) := by decide +kernel
theorem d1_24 : decode prog_11_method_2_code 24 = .ok (.lload 8, 2) := by decide +kernel
theorem d1_26 : decode prog_11_method_2_code 26 = .ok (.lstore 6, 2) := by decide +kernel
theorem d1_28 : decode prog_11_method_2_code 28 = .ok (.goto (-22), 3) := by decide +kernel
def own_Q1 (Z : State) (q0 : Int64) (q1 : Int64) (h0 : Heap) (n0 : Nat) (v : Option Value) (h : Heap) (L : List Loc) : Prop := v = some (.long (own_g q0 q1)) ∧ Fr n0 L ∧ h = h0
set_option maxRecDepth 65536 in
set_option maxHeartbeats 40000000 in
theorem rm1 (l : Launch) (Z : State) (a0 : Array Value) (hw : ∀ d ∈ tables_1, d.before a0 Z = true) (ws : List Jvm.Cond) (q0 : Int64) (q1 : Int64) (h0 : Heap) (n0 : Nat) (Z0 : n0 ≤ h0.size) (ha : 0 ≤ q0.toInt) (hb_ : 0 ≤ q1.toInt) :
    MetFree l (⟨"com/example/debbit/debbit/budgets/WholeNumbers", "greatestCommonDivisor", "(JJ)J"⟩ : MethodName) (head1 (Jvm.Cond.code (⟨"com/example/debbit/debbit/budgets/WholeNumbers", "greatestCommonDivisor", "(JJ)J"⟩ : MethodName) prog_11_method_2_code 10 (some .long) :: ws) ({ frames := 0, cells := 0, slots := 0, locals := 0 } : Room)) (fun a U => a = #[(.long q0), (.long q1)] ∧ Z.Warmed39 U.vm ∧ U.heap = h0) (fun _ _ _ _ _ => True) (fun _ U o U' => ∃ v L, o = .returned v ∧ own_Q1 Z q0 q1 h0 n0 v U'.heap L ∧ FrameEnd U o U' L ({ frames := 0, cells := 0, slots := 0, locals := 0 } : Room).cells ({ frames := 0, cells := 0, slots := 0, locals := 0 } : Room).slots) := by
  refine own_metfree (Q := own_Q1 Z q0 q1 h0 n0) (plainFor_of_name own_pn1) ?_
  intro p e s m below meth c s₁ X0 hx hby hml hret hown hnm hZ e0 G go fin
  have N0 := Fr.nil n0
  refine go _ (s₁.setTop (mkF m 0 #[.val (.long q0), .second, .val (.long q1), .second, .unset, .unset, .unset, .unset, .unset, .unset] [])) (fun t k => castTop (own_ef1 m q0 q1) k) ?_
  refine go _ (s₁.setTop (mkF m 1 #[.val (.long q0), .second, .val (.long q1), .second, .unset, .unset, .unset, .unset, .unset, .unset] [(.long q0)])) (fun t k => XS.lloadN X0.here hx rfl (hb hby d1_0) rfl k) ?_
  refine go _ (s₁.setTop (mkF m 3 #[.val (.long q0), .second, .val (.long q1), .second, .val (.long q0), .second, .unset, .unset, .unset, .unset] [])) (fun t k => XS.lstore X0.here hx rfl (hb hby d1_1) rfl (l' := #[.val (.long q0), .second, .val (.long q1), .second, .val (.long q0), .second, .unset, .unset, .unset, .unset]) rfl k) ?_
  refine go _ (s₁.setTop (mkF m 4 #[.val (.long q0), .second, .val (.long q1), .second, .val (.long q0), .second, .unset, .unset, .unset, .unset] [(.long q1)])) (fun t k => XS.lloadN X0.here hx rfl (hb hby d1_3) rfl k) ?_
  refine go _ (s₁.setTop (mkF m 6 #[.val (.long q0), .second, .val (.long q1), .second, .val (.long q0), .second, .val (.long q1), .second, .unset, .unset] [])) (fun t k => XS.lstore X0.here hx rfl (hb hby d1_4) rfl (l' := #[.val (.long q0), .second, .val (.long q1), .second, .val (.long q0), .second, .val (.long q1), .second, .unset, .unset]) rfl k) ?_
  refine go _ (s₁.setTop (mkF m 8 #[.val (.long q0), .second, .val (.long q1), .second, .val (.long q0), .second, .val (.long q1), .second, .unset, .unset] [(.long q1)])) (fun t k => XS.lload X0.here hx rfl (hb hby d1_6) rfl k) ?_
  refine go _ (s₁.setTop (mkF m 9 #[.val (.long q0), .second, .val (.long q1), .second, .val (.long q0), .second, .val (.long q1), .second, .unset, .unset] [(.long (0 : Int64)), (.long q1)])) (fun t k => XS.lconst X0.here hx rfl (hb hby d1_8) k) ?_
  refine go _ (s₁.setTop (mkF m 10 #[.val (.long q0), .second, .val (.long q1), .second, .val (.long q0), .second, .val (.long q1), .second, .unset, .unset] [(.int (lcmpW q1 (0 : Int64)))])) (fun t k => XS.lcmp X0.here hx rfl (hb hby d1_9) rfl k) ?_
  rcases Decidable.em (q1 = (0 : Int64)) with hc10 | hc10
  · refine go _ (s₁.setTop (mkF m 31 #[.val (.long q0), .second, .val (.long q1), .second, .val (.long q0), .second, .val (.long q1), .second, .unset, .unset] [])) (fun t k => XS.ifYes X0.here hx rfl (pc0 := 10) (pc' := 31) rfl (hb hby d1_10) rfl ((if0 _ _).trans (teq ((lw_eq _ _).mpr hc10)).1) (by decide) (by decide) k) ?_
    refine go _ (s₁.setTop (mkF m 33 #[.val (.long q0), .second, .val (.long q1), .second, .val (.long q0), .second, .val (.long q1), .second, .unset, .unset] [(.long q0)])) (fun t k => XS.lload X0.here hx rfl (hb hby d1_31) rfl k) ?_
    refine fin (some (.long q0)) (mkF m 33 #[.val (.long q0), .second, .val (.long q1), .second, .val (.long q0), .second, .val (.long q1), .second, .unset, .unset] [(.long q0)]) X0 (fun h => by cases h) (fun fs hr => retOut X0 hx (t := .long) hret rfl (Or.inr (Or.inl ⟨rfl, rfl, _, rfl⟩)) (hb hby d1_33) hr) ?_ (by decide) (by decide)
    try rw [e0]
    exact ⟨congrArg (fun z => some (Value.long z)) (own_Ie (⟨ha, hb_, rfl⟩ : own_I q0 q1 q0 q1) hc10), N0, rfl⟩
  · refine go _ (s₁.setTop (mkF m 13 #[.val (.long q0), .second, .val (.long q1), .second, .val (.long q0), .second, .val (.long q1), .second, .unset, .unset] [])) (fun t k => XS.ifNo X0.here hx rfl (hb hby d1_10) rfl ((if0 _ _).trans (feq (fun q => hc10 ((lw_eq _ _).mp q))).1) k) ?_
    refine go _ (s₁.setTop (mkF m 15 #[.val (.long q0), .second, .val (.long q1), .second, .val (.long q0), .second, .val (.long q1), .second, .unset, .unset] [(.long q0)])) (fun t k => XS.lload X0.here hx rfl (hb hby d1_13) rfl k) ?_
    refine go _ (s₁.setTop (mkF m 17 #[.val (.long q0), .second, .val (.long q1), .second, .val (.long q0), .second, .val (.long q1), .second, .unset, .unset] [(.long q1), (.long q0)])) (fun t k => XS.lload X0.here hx rfl (hb hby d1_15) rfl k) ?_
    refine go _ (s₁.setTop (mkF m 18 #[.val (.long q0), .second, .val (.long q1), .second, .val (.long q0), .second, .val (.long q1), .second, .unset, .unset] [(.long (q0 % q1))])) (fun t k => own_lrem X0.here hx rfl (hb hby d1_17) rfl (show q1 ≠ 0 from hc10) k) ?_
    refine go _ (s₁.setTop (mkF m 20 #[.val (.long q0), .second, .val (.long q1), .second, .val (.long q0), .second, .val (.long q1), .second, .val (.long (q0 % q1)), .second] [])) (fun t k => XS.lstore X0.here hx rfl (hb hby d1_18) rfl (l' := #[.val (.long q0), .second, .val (.long q1), .second, .val (.long q0), .second, .val (.long q1), .second, .val (.long (q0 % q1)), .second]) rfl k) ?_
    refine go _ (s₁.setTop (mkF m 22 #[.val (.long q0), .second, .val (.long q1), .second, .val (.long q0), .second, .val (.long q1), .second, .val (.long (q0 % q1)), .second] [(.long q1)])) (fun t k => XS.lload X0.here hx rfl (hb hby d1_20) rfl k) ?_
    refine go _ (s₁.setTop (mkF m 24 #[.val (.long q0), .second, .val (.long q1), .second, .val (.long q1), .second, .val (.long q1), .second, .val (.long (q0 % q1)), .second] [])) (fun t k => XS.lstore X0.here hx rfl (hb hby d1_22) rfl (l' := #[.val (.long q0), .second, .val (.long q1), .second, .val (.long q1), .second, .val (.long q1), .second, .val (.long (q0 % q1)), .second]) rfl k) ?_
    refine go _ (s₁.setTop (mkF m 26 #[.val (.long q0), .second, .val (.long q1), .second, .val (.long q1), .second, .val (.long q1), .second, .val (.long (q0 % q1)), .second] [(.long (q0 % q1))])) (fun t k => XS.lload X0.here hx rfl (hb hby d1_24) rfl k) ?_
    refine go _ (s₁.setTop (mkF m 28 #[.val (.long q0), .second, .val (.long q1), .second, .val (.long q1), .second, .val (.long (q0 % q1)), .second, .val (.long (q0 % q1)), .second] [])) (fun t k => XS.lstore X0.here hx rfl (hb hby d1_26) rfl (l' := #[.val (.long q0), .second, .val (.long q1), .second, .val (.long q1), .second, .val (.long (q0 % q1)), .second, .val (.long (q0 % q1)), .second]) rfl k) ?_
    refine go _ (s₁.setTop (mkF m 6 #[.val (.long q0), .second, .val (.long q1), .second, .val (.long q1), .second, .val (.long (q0 % q1)), .second, .val (.long (q0 % q1)), .second] [])) (fun t k => XS.goto X0.here hx rfl (pc0 := 28) (pc' := 6) rfl (hb hby d1_28) (by decide) (by decide) k) ?_
    have lp : ∀ (klp : Nat) (va : Int64) (vb : Int64) (vr : Int64) (hmlp : vb.toInt.toNat < klp) (hI : own_I q0 q1 va vb), G (s₁.setTop (mkF m 6 #[.val (.long q0), .second, .val (.long q1), .second, .val (.long va), .second, .val (.long vb), .second, .val (.long vr), .second] [])) := by
      intro klp
      induction klp with
      | zero => intro va vb vr hmlp hI; exact absurd hmlp (Nat.not_lt_zero _)
      | succ klp ihlp =>
        intro va vb vr hmlp hI
        refine go _ (s₁.setTop (mkF m 8 #[.val (.long q0), .second, .val (.long q1), .second, .val (.long va), .second, .val (.long vb), .second, .val (.long vr), .second] [(.long vb)])) (fun t k => XS.lload X0.here hx rfl (hb hby d1_6) rfl k) ?_
        refine go _ (s₁.setTop (mkF m 9 #[.val (.long q0), .second, .val (.long q1), .second, .val (.long va), .second, .val (.long vb), .second, .val (.long vr), .second] [(.long (0 : Int64)), (.long vb)])) (fun t k => XS.lconst X0.here hx rfl (hb hby d1_8) k) ?_
        refine go _ (s₁.setTop (mkF m 10 #[.val (.long q0), .second, .val (.long q1), .second, .val (.long va), .second, .val (.long vb), .second, .val (.long vr), .second] [(.int (lcmpW vb (0 : Int64)))])) (fun t k => XS.lcmp X0.here hx rfl (hb hby d1_9) rfl k) ?_
        rcases Decidable.em (vb = (0 : Int64)) with hc10 | hc10
        · refine go _ (s₁.setTop (mkF m 31 #[.val (.long q0), .second, .val (.long q1), .second, .val (.long va), .second, .val (.long vb), .second, .val (.long vr), .second] [])) (fun t k => XS.ifYes X0.here hx rfl (pc0 := 10) (pc' := 31) rfl (hb hby d1_10) rfl ((if0 _ _).trans (teq ((lw_eq _ _).mpr hc10)).1) (by decide) (by decide) k) ?_
          refine go _ (s₁.setTop (mkF m 33 #[.val (.long q0), .second, .val (.long q1), .second, .val (.long va), .second, .val (.long vb), .second, .val (.long vr), .second] [(.long va)])) (fun t k => XS.lload X0.here hx rfl (hb hby d1_31) rfl k) ?_
          refine fin (some (.long va)) (mkF m 33 #[.val (.long q0), .second, .val (.long q1), .second, .val (.long va), .second, .val (.long vb), .second, .val (.long vr), .second] [(.long va)]) X0 (fun h => by cases h) (fun fs hr => retOut X0 hx (t := .long) hret rfl (Or.inr (Or.inl ⟨rfl, rfl, _, rfl⟩)) (hb hby d1_33) hr) ?_ (by decide) (by decide)
          try rw [e0]
          exact ⟨congrArg (fun z => some (Value.long z)) (own_Ie hI hc10), N0, rfl⟩
        · refine go _ (s₁.setTop (mkF m 13 #[.val (.long q0), .second, .val (.long q1), .second, .val (.long va), .second, .val (.long vb), .second, .val (.long vr), .second] [])) (fun t k => XS.ifNo X0.here hx rfl (hb hby d1_10) rfl ((if0 _ _).trans (feq (fun q => hc10 ((lw_eq _ _).mp q))).1) k) ?_
          refine go _ (s₁.setTop (mkF m 15 #[.val (.long q0), .second, .val (.long q1), .second, .val (.long va), .second, .val (.long vb), .second, .val (.long vr), .second] [(.long va)])) (fun t k => XS.lload X0.here hx rfl (hb hby d1_13) rfl k) ?_
          refine go _ (s₁.setTop (mkF m 17 #[.val (.long q0), .second, .val (.long q1), .second, .val (.long va), .second, .val (.long vb), .second, .val (.long vr), .second] [(.long vb), (.long va)])) (fun t k => XS.lload X0.here hx rfl (hb hby d1_15) rfl k) ?_
          refine go _ (s₁.setTop (mkF m 18 #[.val (.long q0), .second, .val (.long q1), .second, .val (.long va), .second, .val (.long vb), .second, .val (.long vr), .second] [(.long (va % vb))])) (fun t k => own_lrem X0.here hx rfl (hb hby d1_17) rfl (show vb ≠ 0 from hc10) k) ?_
          refine go _ (s₁.setTop (mkF m 20 #[.val (.long q0), .second, .val (.long q1), .second, .val (.long va), .second, .val (.long vb), .second, .val (.long (va % vb)), .second] [])) (fun t k => XS.lstore X0.here hx rfl (hb hby d1_18) rfl (l' := #[.val (.long q0), .second, .val (.long q1), .second, .val (.long va), .second, .val (.long vb), .second, .val (.long (va % vb)), .second]) rfl k) ?_
          refine go _ (s₁.setTop (mkF m 22 #[.val (.long q0), .second, .val (.long q1), .second, .val (.long va), .second, .val (.long vb), .second, .val (.long (va % vb)), .second] [(.long vb)])) (fun t k => XS.lload X0.here hx rfl (hb hby d1_20) rfl k) ?_
          refine go _ (s₁.setTop (mkF m 24 #[.val (.long q0), .second, .val (.long q1), .second, .val (.long vb), .second, .val (.long vb), .second, .val (.long (va % vb)), .second] [])) (fun t k => XS.lstore X0.here hx rfl (hb hby d1_22) rfl (l' := #[.val (.long q0), .second, .val (.long q1), .second, .val (.long vb), .second, .val (.long vb), .second, .val (.long (va % vb)), .second]) rfl k) ?_
          refine go _ (s₁.setTop (mkF m 26 #[.val (.long q0), .second, .val (.long q1), .second, .val (.long vb), .second, .val (.long vb), .second, .val (.long (va % vb)), .second] [(.long (va % vb))])) (fun t k => XS.lload X0.here hx rfl (hb hby d1_24) rfl k) ?_
          refine go _ (s₁.setTop (mkF m 28 #[.val (.long q0), .second, .val (.long q1), .second, .val (.long vb), .second, .val (.long (va % vb)), .second, .val (.long (va % vb)), .second] [])) (fun t k => XS.lstore X0.here hx rfl (hb hby d1_26) rfl (l' := #[.val (.long q0), .second, .val (.long q1), .second, .val (.long vb), .second, .val (.long (va % vb)), .second, .val (.long (va % vb)), .second]) rfl k) ?_
          refine go _ (s₁.setTop (mkF m 6 #[.val (.long q0), .second, .val (.long q1), .second, .val (.long vb), .second, .val (.long (va % vb)), .second, .val (.long (va % vb)), .second] [])) (fun t k => XS.goto X0.here hx rfl (pc0 := 28) (pc' := 6) rfl (hb hby d1_28) (by decide) (by decide) k) ?_
          exact ihlp vb (va % vb) (va % vb) (own_Im hI hc10 hmlp) (own_Is hI hc10)
    exact lp ((q0 % q1).toInt.toNat + 1) q1 (q0 % q1) (q0 % q1) (Nat.lt_succ_self _) (own_Is ⟨ha, hb_, rfl⟩ hc10)
theorem own_ef0 (m : MethodId) (q0 : Int64) (q2 : Int64) (q4 : Int64) (q6 : Int64) : entryFrame m #[(.long q0), (.long q2), (.long q4), (.long q6)] maxLocals = mkF m 0 #[.val (.long q0), .second, .val (.long q2), .second, .val (.long q4), .second, .val (.long q6), .second, .unset, .unset, .unset, .unset, .unset, .unset, .unset, .unset, .unset, .unset, .unset, .unset, .unset, .unset, .unset] [] := by first | (simp [entryFrame, mkF, argsToLocals, Value.category, maxLocals]; done) | rfl
theorem own_pn0 : plainName "com/example/debbit/debbit/budgets/WholeNumbersGreatestCommonDivisorPinLaw" = true := by first | (simp [plainName, overriddenIn]; done) | decide +kernel
theorem own_pd_0 : parseMethodDescriptor "(JJ)J" = some ⟨[.long, .long], some .long⟩ := by decide +kernel
def own_Q0 (Z : State) (q0 : Int64) (q2 : Int64) (q4 : Int64) (q6 : Int64) (h0 : Heap) (n0 : Nat) (v : Option Value) (h : Heap) (L : List Loc) : Prop := v = some (.int 1) ∧ Fr n0 L
set_option maxRecDepth 65536 in
set_option maxHeartbeats 40000000 in
theorem rm0 (l : Launch) (Z : State) (a0 : Array Value) (hw : ∀ d ∈ tables_1, d.before a0 Z = true) (ws : List Jvm.Cond) (q0 : Int64) (q2 : Int64) (q4 : Int64) (q6 : Int64) (h0 : Heap) (n0 : Nat) (Z0 : n0 ≤ h0.size) :
    MetFree l x (head1 (Jvm.Cond.code x code maxLocals ret :: ws) room_1) (fun a U => a = #[(.long q0), (.long q2), (.long q4), (.long q6)] ∧ Z.Warmed39 U.vm ∧ U.heap = h0) (fun _ _ _ _ _ => True) (fun _ U o U' => ∃ v L, o = .returned v ∧ own_Q0 Z q0 q2 q4 q6 h0 n0 v U'.heap L ∧ FrameEnd U o U' L room_1.cells room_1.slots) := by
  refine own_metfree (Q := own_Q0 Z q0 q2 q4 q6 h0 n0) (plainFor_of_name own_pn0) ?_
  intro p e s m below meth c s₁ X0 hx hby hml hret hown hnm hZ e0 G go fin
  have N0 := Fr.nil n0
  refine go _ (s₁.setTop (mkF m 0 #[.val (.long q0), .second, .val (.long q2), .second, .val (.long q4), .second, .val (.long q6), .second, .unset, .unset, .unset, .unset, .unset, .unset, .unset, .unset, .unset, .unset, .unset, .unset, .unset, .unset, .unset] [])) (fun t k => castTop (own_ef0 m q0 q2 q4 q6) k) ?_
  refine go _ (s₁.setTop (mkF m 1 #[.val (.long q0), .second, .val (.long q2), .second, .val (.long q4), .second, .val (.long q6), .second, .unset, .unset, .unset, .unset, .unset, .unset, .unset, .unset, .unset, .unset, .unset, .unset, .unset, .unset, .unset] [(.long q0)])) (fun t k => XS.lloadN X0.here hx rfl (hb hby at_0) rfl k) ?_
  refine go _ (s₁.setTop (mkF m 4 #[.val (.long q0), .second, .val (.long q2), .second, .val (.long q4), .second, .val (.long q6), .second, .unset, .unset, .unset, .unset, .unset, .unset, .unset, .unset, .unset, .unset, .unset, .unset, .unset, .unset, .unset] [(.long (9223372036854775807 : Int64)), (.long q0)])) (fun t k => X0.ldc2Long hx hown (mvT hZ (hw _ (List.mem_of_getElem? (i := 0) rfl))) (g := (mkF m 1 #[.val (.long q0), .second, .val (.long q2), .second, .val (.long q4), .second, .val (.long q6), .second, .unset, .unset, .unset, .unset, .unset, .unset, .unset, .unset, .unset, .unset, .unset, .unset, .unset, .unset, .unset] [(.long q0)])) rfl (hb hby at_1) _ k) ?_
  refine go _ (s₁.setTop (mkF m 5 #[.val (.long q0), .second, .val (.long q2), .second, .val (.long q4), .second, .val (.long q6), .second, .unset, .unset, .unset, .unset, .unset, .unset, .unset, .unset, .unset, .unset, .unset, .unset, .unset, .unset, .unset] [(.long (q0 &&& (9223372036854775807 : Int64)))])) (fun t k => XS.land X0.here hx rfl (hb hby at_4) rfl k) ?_
  generalize hv_vx : (q0 &&& (9223372036854775807 : Int64)) = vx
  have hvx := own_nn q0
  rw [hv_vx] at hvx
  refine go _ (s₁.setTop (mkF m 7 #[.val (.long q0), .second, .val (.long q2), .second, .val (.long q4), .second, .val (.long q6), .second, .val (.long vx), .second, .unset, .unset, .unset, .unset, .unset, .unset, .unset, .unset, .unset, .unset, .unset, .unset, .unset] [])) (fun t k => XS.lstore X0.here hx rfl (hb hby at_5) rfl (l' := #[.val (.long q0), .second, .val (.long q2), .second, .val (.long q4), .second, .val (.long q6), .second, .val (.long vx), .second, .unset, .unset, .unset, .unset, .unset, .unset, .unset, .unset, .unset, .unset, .unset, .unset, .unset]) rfl k) ?_
  refine go _ (s₁.setTop (mkF m 8 #[.val (.long q0), .second, .val (.long q2), .second, .val (.long q4), .second, .val (.long q6), .second, .val (.long vx), .second, .unset, .unset, .unset, .unset, .unset, .unset, .unset, .unset, .unset, .unset, .unset, .unset, .unset] [(.long q2)])) (fun t k => XS.lloadN X0.here hx rfl (hb hby at_7) rfl k) ?_
  refine go _ (s₁.setTop (mkF m 11 #[.val (.long q0), .second, .val (.long q2), .second, .val (.long q4), .second, .val (.long q6), .second, .val (.long vx), .second, .unset, .unset, .unset, .unset, .unset, .unset, .unset, .unset, .unset, .unset, .unset, .unset, .unset] [(.long (9223372036854775807 : Int64)), (.long q2)])) (fun t k => X0.ldc2Long hx hown (mvT hZ (hw _ (List.mem_of_getElem? (i := 0) rfl))) (g := (mkF m 8 #[.val (.long q0), .second, .val (.long q2), .second, .val (.long q4), .second, .val (.long q6), .second, .val (.long vx), .second, .unset, .unset, .unset, .unset, .unset, .unset, .unset, .unset, .unset, .unset, .unset, .unset, .unset] [(.long q2)])) rfl (hb hby at_8) _ k) ?_
  refine go _ (s₁.setTop (mkF m 12 #[.val (.long q0), .second, .val (.long q2), .second, .val (.long q4), .second, .val (.long q6), .second, .val (.long vx), .second, .unset, .unset, .unset, .unset, .unset, .unset, .unset, .unset, .unset, .unset, .unset, .unset, .unset] [(.long (q2 &&& (9223372036854775807 : Int64)))])) (fun t k => XS.land X0.here hx rfl (hb hby at_11) rfl k) ?_
  generalize hv_vy : (q2 &&& (9223372036854775807 : Int64)) = vy
  have hvy := own_nn q2
  rw [hv_vy] at hvy
  refine go _ (s₁.setTop (mkF m 14 #[.val (.long q0), .second, .val (.long q2), .second, .val (.long q4), .second, .val (.long q6), .second, .val (.long vx), .second, .val (.long vy), .second, .unset, .unset, .unset, .unset, .unset, .unset, .unset, .unset, .unset, .unset, .unset] [])) (fun t k => XS.lstore X0.here hx rfl (hb hby at_12) rfl (l' := #[.val (.long q0), .second, .val (.long q2), .second, .val (.long q4), .second, .val (.long q6), .second, .val (.long vx), .second, .val (.long vy), .second, .unset, .unset, .unset, .unset, .unset, .unset, .unset, .unset, .unset, .unset, .unset]) rfl k) ?_
  refine go _ (s₁.setTop (mkF m 16 #[.val (.long q0), .second, .val (.long q2), .second, .val (.long q4), .second, .val (.long q6), .second, .val (.long vx), .second, .val (.long vy), .second, .unset, .unset, .unset, .unset, .unset, .unset, .unset, .unset, .unset, .unset, .unset] [(.long vx)])) (fun t k => XS.lload X0.here hx rfl (hb hby at_14) rfl k) ?_
  refine go _ (s₁.setTop (mkF m 18 #[.val (.long q0), .second, .val (.long q2), .second, .val (.long q4), .second, .val (.long q6), .second, .val (.long vx), .second, .val (.long vy), .second, .unset, .unset, .unset, .unset, .unset, .unset, .unset, .unset, .unset, .unset, .unset] [(.long vy), (.long vx)])) (fun t k => XS.lload X0.here hx rfl (hb hby at_16) rfl k) ?_
  obtain ⟨_, _, ⟨T1, L1, k1, n1⟩, -, X1, ⟨Lc1, hQ1, l1, y1, z1⟩, st1⟩ := Jvm.LawKit.callS X0 hx (y := (⟨"com/example/debbit/debbit/budgets/WholeNumbers", "greatestCommonDivisor", "(JJ)J"⟩ : MethodName)) hown (mvT hZ (hw _ (List.mem_of_getElem? (i := 1) rfl))) (mvT hZ (hw _ (List.mem_of_getElem? (i := 2) rfl))) (mvT hZ (hw _ (List.mem_of_getElem? (i := 3) rfl))) (mvT hZ (hw _ (List.mem_of_getElem? (i := 4) rfl))) (by decide) (backOf (W := 0) (rm1 l Z a0 hw [] vx vy h0 n0 Z0 hvx hvy) hZ (hw _ (List.mem_of_getElem? (i := 4) rfl)) (hw _ (List.mem_of_getElem? (i := 3) rfl)) (by decide) (by decide)) (g := (mkF m 18 #[.val (.long q0), .second, .val (.long q2), .second, .val (.long q4), .second, .val (.long q6), .second, .val (.long vx), .second, .val (.long vy), .second, .unset, .unset, .unset, .unset, .unset, .unset, .unset, .unset, .unset, .unset, .unset] [(.long vy), (.long vx)])) rfl (by rw [hml]; rfl) (argsL := [(.long vx), (.long vy)]) (rest := []) (lenOf own_pd_0 rfl) rfl (by show 2 * 0 + _ ≤ _; exact Nat.le_of_eq rfl) (hb hby at_18) (fun _ _ => ⟨rfl, e0, (by decide : 0 + 0 ≤ _), (by decide : 0 + 0 ≤ _)⟩)
  dsimp only [Pt.U, Pt.locs, Pt.cells, Pt.slots] at X1 l1 y1 z1 st1 hQ1
  subst l1 y1 z1
  obtain ⟨rfl, Nq1, eq1⟩ := hQ1
  have N1 := Fr.app N0 Nq1
  refine go _ (T1.setTop (mkF m 21 #[.val (.long q0), .second, .val (.long q2), .second, .val (.long q4), .second, .val (.long q6), .second, .val (.long vx), .second, .val (.long vy), .second, .unset, .unset, .unset, .unset, .unset, .unset, .unset, .unset, .unset, .unset, .unset] [(.long (own_g vx vy))])) st1 ?_
  refine go _ (T1.setTop (mkF m 23 #[.val (.long q0), .second, .val (.long q2), .second, .val (.long q4), .second, .val (.long q6), .second, .val (.long vx), .second, .val (.long vy), .second, .val (.long (own_g vx vy)), .second, .unset, .unset, .unset, .unset, .unset, .unset, .unset, .unset, .unset] [])) (fun t k => XS.lstore X1.here hx rfl (hb hby at_21) rfl (l' := #[.val (.long q0), .second, .val (.long q2), .second, .val (.long q4), .second, .val (.long q6), .second, .val (.long vx), .second, .val (.long vy), .second, .val (.long (own_g vx vy)), .second, .unset, .unset, .unset, .unset, .unset, .unset, .unset, .unset, .unset]) rfl k) ?_
  have j106 : ∀ (Tj106 : State) (Lj106 : List Loc) (Xj106 : Stand p l e room_1 s m #[(.long q0), (.long q2), (.long q4), (.long q6)] below meth c Tj106 Lj106 0 0) (Nj106 : Fr n0 Lj106) (ej106 : Tj106.heap = h0), G (Tj106.setTop (mkF m 106 #[.val (.long q0), .second, .val (.long q2), .second, .val (.long q4), .second, .val (.long q6), .second, .val (.long vx), .second, .val (.long vy), .second, .val (.long (own_g vx vy)), .second, .val (.int (1 : Int32)), .unset, .unset, .unset, .unset, .unset, .unset, .unset, .unset] [])) := by
    intro Tj106 Lj106 Xj106 Nj106 ej106
    refine go _ (Tj106.setTop (mkF m 108 #[.val (.long q0), .second, .val (.long q2), .second, .val (.long q4), .second, .val (.long q6), .second, .val (.long vx), .second, .val (.long vy), .second, .val (.long (own_g vx vy)), .second, .val (.int (1 : Int32)), .unset, .unset, .unset, .unset, .unset, .unset, .unset, .unset] [(.int (1 : Int32))])) (fun t k => XS.iload Xj106.here hx rfl (hb hby at_106) rfl k) ?_
    have hc108 : ¬ ((1 : Int32) = (0 : Int32)) := by decide
    refine go _ (Tj106.setTop (mkF m 111 #[.val (.long q0), .second, .val (.long q2), .second, .val (.long q4), .second, .val (.long q6), .second, .val (.long vx), .second, .val (.long vy), .second, .val (.long (own_g vx vy)), .second, .val (.int (1 : Int32)), .unset, .unset, .unset, .unset, .unset, .unset, .unset, .unset] [])) (fun t k => XS.ifNo Xj106.here hx rfl (hb hby at_108) rfl ((if0 _ _).trans (feq hc108).1) k) ?_
    refine go _ (Tj106.setTop (mkF m 113 #[.val (.long q0), .second, .val (.long q2), .second, .val (.long q4), .second, .val (.long q6), .second, .val (.long vx), .second, .val (.long vy), .second, .val (.long (own_g vx vy)), .second, .val (.int (1 : Int32)), .unset, .unset, .unset, .unset, .unset, .unset, .unset, .unset] [(.long vy)])) (fun t k => XS.lload Xj106.here hx rfl (hb hby at_111) rfl k) ?_
    refine go _ (Tj106.setTop (mkF m 115 #[.val (.long q0), .second, .val (.long q2), .second, .val (.long q4), .second, .val (.long q6), .second, .val (.long vx), .second, .val (.long vy), .second, .val (.long (own_g vx vy)), .second, .val (.int (1 : Int32)), .unset, .unset, .unset, .unset, .unset, .unset, .unset, .unset] [(.long vx), (.long vy)])) (fun t k => XS.lload Xj106.here hx rfl (hb hby at_113) rfl k) ?_
    obtain ⟨_, _, ⟨T2, L2, k2, n2⟩, -, X2, ⟨Lc2, hQ2, l2, y2, z2⟩, st2⟩ := Jvm.LawKit.callS Xj106 hx (y := (⟨"com/example/debbit/debbit/budgets/WholeNumbers", "greatestCommonDivisor", "(JJ)J"⟩ : MethodName)) hown (mvT hZ (hw _ (List.mem_of_getElem? (i := 1) rfl))) (mvT hZ (hw _ (List.mem_of_getElem? (i := 2) rfl))) (mvT hZ (hw _ (List.mem_of_getElem? (i := 3) rfl))) (mvT hZ (hw _ (List.mem_of_getElem? (i := 4) rfl))) (by decide) (backOf (W := 0) (rm1 l Z a0 hw [] vy vx h0 n0 Z0 hvy hvx) hZ (hw _ (List.mem_of_getElem? (i := 4) rfl)) (hw _ (List.mem_of_getElem? (i := 3) rfl)) (by decide) (by decide)) (g := (mkF m 115 #[.val (.long q0), .second, .val (.long q2), .second, .val (.long q4), .second, .val (.long q6), .second, .val (.long vx), .second, .val (.long vy), .second, .val (.long (own_g vx vy)), .second, .val (.int (1 : Int32)), .unset, .unset, .unset, .unset, .unset, .unset, .unset, .unset] [(.long vx), (.long vy)])) rfl (by rw [hml]; rfl) (argsL := [(.long vy), (.long vx)]) (rest := []) (lenOf own_pd_0 rfl) rfl (by show 2 * 0 + _ ≤ _; exact Nat.le_of_eq rfl) (hb hby at_115) (fun _ _ => ⟨rfl, ej106, (by decide : 0 + 0 ≤ _), (by decide : 0 + 0 ≤ _)⟩)
    dsimp only [Pt.U, Pt.locs, Pt.cells, Pt.slots] at X2 l2 y2 z2 st2 hQ2
    subst l2 y2 z2
    obtain ⟨rfl, Nq2, eq2⟩ := hQ2
    have N2 := Fr.app Nj106 Nq2
    refine go _ (T2.setTop (mkF m 118 #[.val (.long q0), .second, .val (.long q2), .second, .val (.long q4), .second, .val (.long q6), .second, .val (.long vx), .second, .val (.long vy), .second, .val (.long (own_g vx vy)), .second, .val (.int (1 : Int32)), .unset, .unset, .unset, .unset, .unset, .unset, .unset, .unset] [(.long (own_g vy vx))])) st2 ?_
    refine go _ (T2.setTop (mkF m 120 #[.val (.long q0), .second, .val (.long q2), .second, .val (.long q4), .second, .val (.long q6), .second, .val (.long vx), .second, .val (.long vy), .second, .val (.long (own_g vx vy)), .second, .val (.int (1 : Int32)), .unset, .unset, .unset, .unset, .unset, .unset, .unset, .unset] [(.long (own_g vx vy)), (.long (own_g vy vx))])) (fun t k => XS.lload X2.here hx rfl (hb hby at_118) rfl k) ?_
    refine go _ (T2.setTop (mkF m 121 #[.val (.long q0), .second, .val (.long q2), .second, .val (.long q4), .second, .val (.long q6), .second, .val (.long vx), .second, .val (.long vy), .second, .val (.long (own_g vx vy)), .second, .val (.int (1 : Int32)), .unset, .unset, .unset, .unset, .unset, .unset, .unset, .unset] [(.int (lcmpW (own_g vy vx) (own_g vx vy)))])) (fun t k => XS.lcmp X2.here hx rfl (hb hby at_120) rfl k) ?_
    have hc121 : (own_g vy vx) = (own_g vx vy) := by exact own_a6
    refine go _ (T2.setTop (mkF m 124 #[.val (.long q0), .second, .val (.long q2), .second, .val (.long q4), .second, .val (.long q6), .second, .val (.long vx), .second, .val (.long vy), .second, .val (.long (own_g vx vy)), .second, .val (.int (1 : Int32)), .unset, .unset, .unset, .unset, .unset, .unset, .unset, .unset] [])) (fun t k => XS.ifNo X2.here hx rfl (hb hby at_121) rfl ((if0 _ _).trans (teq ((lw_eq _ _).mpr hc121)).2) k) ?_
    refine go _ (T2.setTop (mkF m 125 #[.val (.long q0), .second, .val (.long q2), .second, .val (.long q4), .second, .val (.long q6), .second, .val (.long vx), .second, .val (.long vy), .second, .val (.long (own_g vx vy)), .second, .val (.int (1 : Int32)), .unset, .unset, .unset, .unset, .unset, .unset, .unset, .unset] [(.int (1 : Int32))])) (fun t k => XS.iconst X2.here hx rfl (hb hby at_124) k) ?_
    refine go _ (T2.setTop (mkF m 129 #[.val (.long q0), .second, .val (.long q2), .second, .val (.long q4), .second, .val (.long q6), .second, .val (.long vx), .second, .val (.long vy), .second, .val (.long (own_g vx vy)), .second, .val (.int (1 : Int32)), .unset, .unset, .unset, .unset, .unset, .unset, .unset, .unset] [(.int (1 : Int32))])) (fun t k => XS.goto X2.here hx rfl (pc0 := 125) (pc' := 129) rfl (hb hby at_125) (by decide) (by decide) k) ?_
    refine go _ (T2.setTop (mkF m 131 #[.val (.long q0), .second, .val (.long q2), .second, .val (.long q4), .second, .val (.long q6), .second, .val (.long vx), .second, .val (.long vy), .second, .val (.long (own_g vx vy)), .second, .val (.int (1 : Int32)), .unset, .unset, .unset, .unset, .unset, .unset, .unset, .unset] [])) (fun t k => XS.istore X2.here hx rfl (hb hby at_129) rfl (l' := #[.val (.long q0), .second, .val (.long q2), .second, .val (.long q4), .second, .val (.long q6), .second, .val (.long vx), .second, .val (.long vy), .second, .val (.long (own_g vx vy)), .second, .val (.int (1 : Int32)), .unset, .unset, .unset, .unset, .unset, .unset, .unset, .unset]) rfl k) ?_
    refine go _ (T2.setTop (mkF m 133 #[.val (.long q0), .second, .val (.long q2), .second, .val (.long q4), .second, .val (.long q6), .second, .val (.long vx), .second, .val (.long vy), .second, .val (.long (own_g vx vy)), .second, .val (.int (1 : Int32)), .unset, .unset, .unset, .unset, .unset, .unset, .unset, .unset] [(.int (1 : Int32))])) (fun t k => XS.iload X2.here hx rfl (hb hby at_131) rfl k) ?_
    have hc133 : ¬ ((1 : Int32) = (0 : Int32)) := by decide
    refine go _ (T2.setTop (mkF m 136 #[.val (.long q0), .second, .val (.long q2), .second, .val (.long q4), .second, .val (.long q6), .second, .val (.long vx), .second, .val (.long vy), .second, .val (.long (own_g vx vy)), .second, .val (.int (1 : Int32)), .unset, .unset, .unset, .unset, .unset, .unset, .unset, .unset] [])) (fun t k => XS.ifNo X2.here hx rfl (hb hby at_133) rfl ((if0 _ _).trans (feq hc133).1) k) ?_
    refine go _ (T2.setTop (mkF m 138 #[.val (.long q0), .second, .val (.long q2), .second, .val (.long q4), .second, .val (.long q6), .second, .val (.long vx), .second, .val (.long vy), .second, .val (.long (own_g vx vy)), .second, .val (.int (1 : Int32)), .unset, .unset, .unset, .unset, .unset, .unset, .unset, .unset] [(.long vx)])) (fun t k => XS.lload X2.here hx rfl (hb hby at_136) rfl k) ?_
    refine go _ (T2.setTop (mkF m 139 #[.val (.long q0), .second, .val (.long q2), .second, .val (.long q4), .second, .val (.long q6), .second, .val (.long vx), .second, .val (.long vy), .second, .val (.long (own_g vx vy)), .second, .val (.int (1 : Int32)), .unset, .unset, .unset, .unset, .unset, .unset, .unset, .unset] [(.long (0 : Int64)), (.long vx)])) (fun t k => XS.lconst X2.here hx rfl (hb hby at_138) k) ?_
    obtain ⟨_, _, ⟨T3, L3, k3, n3⟩, -, X3, ⟨Lc3, hQ3, l3, y3, z3⟩, st3⟩ := Jvm.LawKit.callS X2 hx (y := (⟨"com/example/debbit/debbit/budgets/WholeNumbers", "greatestCommonDivisor", "(JJ)J"⟩ : MethodName)) hown (mvT hZ (hw _ (List.mem_of_getElem? (i := 1) rfl))) (mvT hZ (hw _ (List.mem_of_getElem? (i := 2) rfl))) (mvT hZ (hw _ (List.mem_of_getElem? (i := 3) rfl))) (mvT hZ (hw _ (List.mem_of_getElem? (i := 4) rfl))) (by decide) (backOf (W := 0) (rm1 l Z a0 hw [] vx (0 : Int64) h0 n0 Z0 hvx (by decide)) hZ (hw _ (List.mem_of_getElem? (i := 4) rfl)) (hw _ (List.mem_of_getElem? (i := 3) rfl)) (by decide) (by decide)) (g := (mkF m 139 #[.val (.long q0), .second, .val (.long q2), .second, .val (.long q4), .second, .val (.long q6), .second, .val (.long vx), .second, .val (.long vy), .second, .val (.long (own_g vx vy)), .second, .val (.int (1 : Int32)), .unset, .unset, .unset, .unset, .unset, .unset, .unset, .unset] [(.long (0 : Int64)), (.long vx)])) rfl (by rw [hml]; rfl) (argsL := [(.long vx), (.long (0 : Int64))]) (rest := []) (lenOf own_pd_0 rfl) rfl (by show 2 * 0 + _ ≤ _; exact Nat.le_of_eq rfl) (hb hby at_139) (fun _ _ => ⟨rfl, eq2, (by decide : 0 + 0 ≤ _), (by decide : 0 + 0 ≤ _)⟩)
    dsimp only [Pt.U, Pt.locs, Pt.cells, Pt.slots] at X3 l3 y3 z3 st3 hQ3
    subst l3 y3 z3
    obtain ⟨rfl, Nq3, eq3⟩ := hQ3
    have N3 := Fr.app N2 Nq3
    refine go _ (T3.setTop (mkF m 142 #[.val (.long q0), .second, .val (.long q2), .second, .val (.long q4), .second, .val (.long q6), .second, .val (.long vx), .second, .val (.long vy), .second, .val (.long (own_g vx vy)), .second, .val (.int (1 : Int32)), .unset, .unset, .unset, .unset, .unset, .unset, .unset, .unset] [(.long (own_g vx (0 : Int64)))])) st3 ?_
    refine go _ (T3.setTop (mkF m 144 #[.val (.long q0), .second, .val (.long q2), .second, .val (.long q4), .second, .val (.long q6), .second, .val (.long vx), .second, .val (.long vy), .second, .val (.long (own_g vx vy)), .second, .val (.int (1 : Int32)), .unset, .unset, .unset, .unset, .unset, .unset, .unset, .unset] [(.long vx), (.long (own_g vx (0 : Int64)))])) (fun t k => XS.lload X3.here hx rfl (hb hby at_142) rfl k) ?_
    refine go _ (T3.setTop (mkF m 145 #[.val (.long q0), .second, .val (.long q2), .second, .val (.long q4), .second, .val (.long q6), .second, .val (.long vx), .second, .val (.long vy), .second, .val (.long (own_g vx vy)), .second, .val (.int (1 : Int32)), .unset, .unset, .unset, .unset, .unset, .unset, .unset, .unset] [(.int (lcmpW (own_g vx (0 : Int64)) vx))])) (fun t k => XS.lcmp X3.here hx rfl (hb hby at_144) rfl k) ?_
    have hc145 : (own_g vx (0 : Int64)) = vx := by exact own_a7 hvx
    refine go _ (T3.setTop (mkF m 148 #[.val (.long q0), .second, .val (.long q2), .second, .val (.long q4), .second, .val (.long q6), .second, .val (.long vx), .second, .val (.long vy), .second, .val (.long (own_g vx vy)), .second, .val (.int (1 : Int32)), .unset, .unset, .unset, .unset, .unset, .unset, .unset, .unset] [])) (fun t k => XS.ifNo X3.here hx rfl (hb hby at_145) rfl ((if0 _ _).trans (teq ((lw_eq _ _).mpr hc145)).2) k) ?_
    refine go _ (T3.setTop (mkF m 149 #[.val (.long q0), .second, .val (.long q2), .second, .val (.long q4), .second, .val (.long q6), .second, .val (.long vx), .second, .val (.long vy), .second, .val (.long (own_g vx vy)), .second, .val (.int (1 : Int32)), .unset, .unset, .unset, .unset, .unset, .unset, .unset, .unset] [(.int (1 : Int32))])) (fun t k => XS.iconst X3.here hx rfl (hb hby at_148) k) ?_
    refine go _ (T3.setTop (mkF m 153 #[.val (.long q0), .second, .val (.long q2), .second, .val (.long q4), .second, .val (.long q6), .second, .val (.long vx), .second, .val (.long vy), .second, .val (.long (own_g vx vy)), .second, .val (.int (1 : Int32)), .unset, .unset, .unset, .unset, .unset, .unset, .unset, .unset] [(.int (1 : Int32))])) (fun t k => XS.goto X3.here hx rfl (pc0 := 149) (pc' := 153) rfl (hb hby at_149) (by decide) (by decide) k) ?_
    refine go _ (T3.setTop (mkF m 155 #[.val (.long q0), .second, .val (.long q2), .second, .val (.long q4), .second, .val (.long q6), .second, .val (.long vx), .second, .val (.long vy), .second, .val (.long (own_g vx vy)), .second, .val (.int (1 : Int32)), .unset, .unset, .unset, .unset, .unset, .unset, .unset, .unset] [])) (fun t k => XS.istore X3.here hx rfl (hb hby at_153) rfl (l' := #[.val (.long q0), .second, .val (.long q2), .second, .val (.long q4), .second, .val (.long q6), .second, .val (.long vx), .second, .val (.long vy), .second, .val (.long (own_g vx vy)), .second, .val (.int (1 : Int32)), .unset, .unset, .unset, .unset, .unset, .unset, .unset, .unset]) rfl k) ?_
    refine go _ (T3.setTop (mkF m 157 #[.val (.long q0), .second, .val (.long q2), .second, .val (.long q4), .second, .val (.long q6), .second, .val (.long vx), .second, .val (.long vy), .second, .val (.long (own_g vx vy)), .second, .val (.int (1 : Int32)), .unset, .unset, .unset, .unset, .unset, .unset, .unset, .unset] [(.int (1 : Int32))])) (fun t k => XS.iload X3.here hx rfl (hb hby at_155) rfl k) ?_
    have hc157 : ¬ ((1 : Int32) = (0 : Int32)) := by decide
    refine go _ (T3.setTop (mkF m 160 #[.val (.long q0), .second, .val (.long q2), .second, .val (.long q4), .second, .val (.long q6), .second, .val (.long vx), .second, .val (.long vy), .second, .val (.long (own_g vx vy)), .second, .val (.int (1 : Int32)), .unset, .unset, .unset, .unset, .unset, .unset, .unset, .unset] [])) (fun t k => XS.ifNo X3.here hx rfl (hb hby at_157) rfl ((if0 _ _).trans (feq hc157).1) k) ?_
    refine go _ (T3.setTop (mkF m 161 #[.val (.long q0), .second, .val (.long q2), .second, .val (.long q4), .second, .val (.long q6), .second, .val (.long vx), .second, .val (.long vy), .second, .val (.long (own_g vx vy)), .second, .val (.int (1 : Int32)), .unset, .unset, .unset, .unset, .unset, .unset, .unset, .unset] [(.long (0 : Int64))])) (fun t k => XS.lconst X3.here hx rfl (hb hby at_160) k) ?_
    refine go _ (T3.setTop (mkF m 163 #[.val (.long q0), .second, .val (.long q2), .second, .val (.long q4), .second, .val (.long q6), .second, .val (.long vx), .second, .val (.long vy), .second, .val (.long (own_g vx vy)), .second, .val (.int (1 : Int32)), .unset, .unset, .unset, .unset, .unset, .unset, .unset, .unset] [(.long vy), (.long (0 : Int64))])) (fun t k => XS.lload X3.here hx rfl (hb hby at_161) rfl k) ?_
    obtain ⟨_, _, ⟨T4, L4, k4, n4⟩, -, X4, ⟨Lc4, hQ4, l4, y4, z4⟩, st4⟩ := Jvm.LawKit.callS X3 hx (y := (⟨"com/example/debbit/debbit/budgets/WholeNumbers", "greatestCommonDivisor", "(JJ)J"⟩ : MethodName)) hown (mvT hZ (hw _ (List.mem_of_getElem? (i := 1) rfl))) (mvT hZ (hw _ (List.mem_of_getElem? (i := 2) rfl))) (mvT hZ (hw _ (List.mem_of_getElem? (i := 3) rfl))) (mvT hZ (hw _ (List.mem_of_getElem? (i := 4) rfl))) (by decide) (backOf (W := 0) (rm1 l Z a0 hw [] (0 : Int64) vy h0 n0 Z0 (by decide) hvy) hZ (hw _ (List.mem_of_getElem? (i := 4) rfl)) (hw _ (List.mem_of_getElem? (i := 3) rfl)) (by decide) (by decide)) (g := (mkF m 163 #[.val (.long q0), .second, .val (.long q2), .second, .val (.long q4), .second, .val (.long q6), .second, .val (.long vx), .second, .val (.long vy), .second, .val (.long (own_g vx vy)), .second, .val (.int (1 : Int32)), .unset, .unset, .unset, .unset, .unset, .unset, .unset, .unset] [(.long vy), (.long (0 : Int64))])) rfl (by rw [hml]; rfl) (argsL := [(.long (0 : Int64)), (.long vy)]) (rest := []) (lenOf own_pd_0 rfl) rfl (by show 2 * 0 + _ ≤ _; exact Nat.le_of_eq rfl) (hb hby at_163) (fun _ _ => ⟨rfl, eq3, (by decide : 0 + 0 ≤ _), (by decide : 0 + 0 ≤ _)⟩)
    dsimp only [Pt.U, Pt.locs, Pt.cells, Pt.slots] at X4 l4 y4 z4 st4 hQ4
    subst l4 y4 z4
    obtain ⟨rfl, Nq4, eq4⟩ := hQ4
    have N4 := Fr.app N3 Nq4
    refine go _ (T4.setTop (mkF m 166 #[.val (.long q0), .second, .val (.long q2), .second, .val (.long q4), .second, .val (.long q6), .second, .val (.long vx), .second, .val (.long vy), .second, .val (.long (own_g vx vy)), .second, .val (.int (1 : Int32)), .unset, .unset, .unset, .unset, .unset, .unset, .unset, .unset] [(.long (own_g (0 : Int64) vy))])) st4 ?_
    refine go _ (T4.setTop (mkF m 168 #[.val (.long q0), .second, .val (.long q2), .second, .val (.long q4), .second, .val (.long q6), .second, .val (.long vx), .second, .val (.long vy), .second, .val (.long (own_g vx vy)), .second, .val (.int (1 : Int32)), .unset, .unset, .unset, .unset, .unset, .unset, .unset, .unset] [(.long vy), (.long (own_g (0 : Int64) vy))])) (fun t k => XS.lload X4.here hx rfl (hb hby at_166) rfl k) ?_
    refine go _ (T4.setTop (mkF m 169 #[.val (.long q0), .second, .val (.long q2), .second, .val (.long q4), .second, .val (.long q6), .second, .val (.long vx), .second, .val (.long vy), .second, .val (.long (own_g vx vy)), .second, .val (.int (1 : Int32)), .unset, .unset, .unset, .unset, .unset, .unset, .unset, .unset] [(.int (lcmpW (own_g (0 : Int64) vy) vy))])) (fun t k => XS.lcmp X4.here hx rfl (hb hby at_168) rfl k) ?_
    have hc169 : (own_g (0 : Int64) vy) = vy := by exact own_a8 hvy
    refine go _ (T4.setTop (mkF m 172 #[.val (.long q0), .second, .val (.long q2), .second, .val (.long q4), .second, .val (.long q6), .second, .val (.long vx), .second, .val (.long vy), .second, .val (.long (own_g vx vy)), .second, .val (.int (1 : Int32)), .unset, .unset, .unset, .unset, .unset, .unset, .unset, .unset] [])) (fun t k => XS.ifNo X4.here hx rfl (hb hby at_169) rfl ((if0 _ _).trans (teq ((lw_eq _ _).mpr hc169)).2) k) ?_
    refine go _ (T4.setTop (mkF m 173 #[.val (.long q0), .second, .val (.long q2), .second, .val (.long q4), .second, .val (.long q6), .second, .val (.long vx), .second, .val (.long vy), .second, .val (.long (own_g vx vy)), .second, .val (.int (1 : Int32)), .unset, .unset, .unset, .unset, .unset, .unset, .unset, .unset] [(.int (1 : Int32))])) (fun t k => XS.iconst X4.here hx rfl (hb hby at_172) k) ?_
    refine go _ (T4.setTop (mkF m 177 #[.val (.long q0), .second, .val (.long q2), .second, .val (.long q4), .second, .val (.long q6), .second, .val (.long vx), .second, .val (.long vy), .second, .val (.long (own_g vx vy)), .second, .val (.int (1 : Int32)), .unset, .unset, .unset, .unset, .unset, .unset, .unset, .unset] [(.int (1 : Int32))])) (fun t k => XS.goto X4.here hx rfl (pc0 := 173) (pc' := 177) rfl (hb hby at_173) (by decide) (by decide) k) ?_
    refine go _ (T4.setTop (mkF m 179 #[.val (.long q0), .second, .val (.long q2), .second, .val (.long q4), .second, .val (.long q6), .second, .val (.long vx), .second, .val (.long vy), .second, .val (.long (own_g vx vy)), .second, .val (.int (1 : Int32)), .unset, .unset, .unset, .unset, .unset, .unset, .unset, .unset] [])) (fun t k => XS.istore X4.here hx rfl (hb hby at_177) rfl (l' := #[.val (.long q0), .second, .val (.long q2), .second, .val (.long q4), .second, .val (.long q6), .second, .val (.long vx), .second, .val (.long vy), .second, .val (.long (own_g vx vy)), .second, .val (.int (1 : Int32)), .unset, .unset, .unset, .unset, .unset, .unset, .unset, .unset]) rfl k) ?_
    refine go _ (T4.setTop (mkF m 181 #[.val (.long q0), .second, .val (.long q2), .second, .val (.long q4), .second, .val (.long q6), .second, .val (.long vx), .second, .val (.long vy), .second, .val (.long (own_g vx vy)), .second, .val (.int (1 : Int32)), .unset, .unset, .unset, .unset, .unset, .unset, .unset, .unset] [(.long q4)])) (fun t k => XS.lload X4.here hx rfl (hb hby at_179) rfl k) ?_
    refine go _ (T4.setTop (mkF m 184 #[.val (.long q0), .second, .val (.long q2), .second, .val (.long q4), .second, .val (.long q6), .second, .val (.long vx), .second, .val (.long vy), .second, .val (.long (own_g vx vy)), .second, .val (.int (1 : Int32)), .unset, .unset, .unset, .unset, .unset, .unset, .unset, .unset] [(.long (2147483647 : Int64)), (.long q4)])) (fun t k => X4.ldc2Long hx hown (mvT hZ (hw _ (List.mem_of_getElem? (i := 5) rfl))) (g := (mkF m 181 #[.val (.long q0), .second, .val (.long q2), .second, .val (.long q4), .second, .val (.long q6), .second, .val (.long vx), .second, .val (.long vy), .second, .val (.long (own_g vx vy)), .second, .val (.int (1 : Int32)), .unset, .unset, .unset, .unset, .unset, .unset, .unset, .unset] [(.long q4)])) rfl (hb hby at_181) _ k) ?_
    refine go _ (T4.setTop (mkF m 185 #[.val (.long q0), .second, .val (.long q2), .second, .val (.long q4), .second, .val (.long q6), .second, .val (.long vx), .second, .val (.long vy), .second, .val (.long (own_g vx vy)), .second, .val (.int (1 : Int32)), .unset, .unset, .unset, .unset, .unset, .unset, .unset, .unset] [(.long (q4 &&& (2147483647 : Int64)))])) (fun t k => XS.land X4.here hx rfl (hb hby at_184) rfl k) ?_
    refine go _ (T4.setTop (mkF m 186 #[.val (.long q0), .second, .val (.long q2), .second, .val (.long q4), .second, .val (.long q6), .second, .val (.long vx), .second, .val (.long vy), .second, .val (.long (own_g vx vy)), .second, .val (.int (1 : Int32)), .unset, .unset, .unset, .unset, .unset, .unset, .unset, .unset] [(.long (1 : Int64)), (.long (q4 &&& (2147483647 : Int64)))])) (fun t k => XS.lconst X4.here hx rfl (hb hby at_185) k) ?_
    refine go _ (T4.setTop (mkF m 187 #[.val (.long q0), .second, .val (.long q2), .second, .val (.long q4), .second, .val (.long q6), .second, .val (.long vx), .second, .val (.long vy), .second, .val (.long (own_g vx vy)), .second, .val (.int (1 : Int32)), .unset, .unset, .unset, .unset, .unset, .unset, .unset, .unset] [(.long ((q4 &&& (2147483647 : Int64)) + (1 : Int64)))])) (fun t k => XS.ladd X4.here hx rfl (hb hby at_186) rfl k) ?_
    generalize hv_vm : ((q4 &&& (2147483647 : Int64)) + (1 : Int64)) = vm
    have hm := own_m q4
    rw [hv_vm] at hm
    refine go _ (T4.setTop (mkF m 189 #[.val (.long q0), .second, .val (.long q2), .second, .val (.long q4), .second, .val (.long q6), .second, .val (.long vx), .second, .val (.long vy), .second, .val (.long (own_g vx vy)), .second, .val (.int (1 : Int32)), .val (.long vm), .second, .unset, .unset, .unset, .unset, .unset, .unset] [])) (fun t k => XS.lstore X4.here hx rfl (hb hby at_187) rfl (l' := #[.val (.long q0), .second, .val (.long q2), .second, .val (.long q4), .second, .val (.long q6), .second, .val (.long vx), .second, .val (.long vy), .second, .val (.long (own_g vx vy)), .second, .val (.int (1 : Int32)), .val (.long vm), .second, .unset, .unset, .unset, .unset, .unset, .unset]) rfl k) ?_
    refine go _ (T4.setTop (mkF m 191 #[.val (.long q0), .second, .val (.long q2), .second, .val (.long q4), .second, .val (.long q6), .second, .val (.long vx), .second, .val (.long vy), .second, .val (.long (own_g vx vy)), .second, .val (.int (1 : Int32)), .val (.long vm), .second, .unset, .unset, .unset, .unset, .unset, .unset] [(.long q6)])) (fun t k => XS.lload X4.here hx rfl (hb hby at_189) rfl k) ?_
    refine go _ (T4.setTop (mkF m 194 #[.val (.long q0), .second, .val (.long q2), .second, .val (.long q4), .second, .val (.long q6), .second, .val (.long vx), .second, .val (.long vy), .second, .val (.long (own_g vx vy)), .second, .val (.int (1 : Int32)), .val (.long vm), .second, .unset, .unset, .unset, .unset, .unset, .unset] [(.long (2147483647 : Int64)), (.long q6)])) (fun t k => X4.ldc2Long hx hown (mvT hZ (hw _ (List.mem_of_getElem? (i := 5) rfl))) (g := (mkF m 191 #[.val (.long q0), .second, .val (.long q2), .second, .val (.long q4), .second, .val (.long q6), .second, .val (.long vx), .second, .val (.long vy), .second, .val (.long (own_g vx vy)), .second, .val (.int (1 : Int32)), .val (.long vm), .second, .unset, .unset, .unset, .unset, .unset, .unset] [(.long q6)])) rfl (hb hby at_191) _ k) ?_
    refine go _ (T4.setTop (mkF m 195 #[.val (.long q0), .second, .val (.long q2), .second, .val (.long q4), .second, .val (.long q6), .second, .val (.long vx), .second, .val (.long vy), .second, .val (.long (own_g vx vy)), .second, .val (.int (1 : Int32)), .val (.long vm), .second, .unset, .unset, .unset, .unset, .unset, .unset] [(.long (q6 &&& (2147483647 : Int64)))])) (fun t k => XS.land X4.here hx rfl (hb hby at_194) rfl k) ?_
    generalize hv_vk : (q6 &&& (2147483647 : Int64)) = vk
    have hk := own_k q6
    rw [hv_vk] at hk
    refine go _ (T4.setTop (mkF m 197 #[.val (.long q0), .second, .val (.long q2), .second, .val (.long q4), .second, .val (.long q6), .second, .val (.long vx), .second, .val (.long vy), .second, .val (.long (own_g vx vy)), .second, .val (.int (1 : Int32)), .val (.long vm), .second, .val (.long vk), .second, .unset, .unset, .unset, .unset] [])) (fun t k => XS.lstore X4.here hx rfl (hb hby at_195) rfl (l' := #[.val (.long q0), .second, .val (.long q2), .second, .val (.long q4), .second, .val (.long q6), .second, .val (.long vx), .second, .val (.long vy), .second, .val (.long (own_g vx vy)), .second, .val (.int (1 : Int32)), .val (.long vm), .second, .val (.long vk), .second, .unset, .unset, .unset, .unset]) rfl k) ?_
    refine go _ (T4.setTop (mkF m 199 #[.val (.long q0), .second, .val (.long q2), .second, .val (.long q4), .second, .val (.long q6), .second, .val (.long vx), .second, .val (.long vy), .second, .val (.long (own_g vx vy)), .second, .val (.int (1 : Int32)), .val (.long vm), .second, .val (.long vk), .second, .unset, .unset, .unset, .unset] [(.long vm)])) (fun t k => XS.lload X4.here hx rfl (hb hby at_197) rfl k) ?_
    refine go _ (T4.setTop (mkF m 201 #[.val (.long q0), .second, .val (.long q2), .second, .val (.long q4), .second, .val (.long q6), .second, .val (.long vx), .second, .val (.long vy), .second, .val (.long (own_g vx vy)), .second, .val (.int (1 : Int32)), .val (.long vm), .second, .val (.long vk), .second, .unset, .unset, .unset, .unset] [(.long vk), (.long vm)])) (fun t k => XS.lload X4.here hx rfl (hb hby at_199) rfl k) ?_
    refine go _ (T4.setTop (mkF m 202 #[.val (.long q0), .second, .val (.long q2), .second, .val (.long q4), .second, .val (.long q6), .second, .val (.long vx), .second, .val (.long vy), .second, .val (.long (own_g vx vy)), .second, .val (.int (1 : Int32)), .val (.long vm), .second, .val (.long vk), .second, .unset, .unset, .unset, .unset] [(.long (vm * vk))])) (fun t k => XS.lmul X4.here hx rfl (hb hby at_201) rfl k) ?_
    refine go _ (T4.setTop (mkF m 204 #[.val (.long q0), .second, .val (.long q2), .second, .val (.long q4), .second, .val (.long q6), .second, .val (.long vx), .second, .val (.long vy), .second, .val (.long (own_g vx vy)), .second, .val (.int (1 : Int32)), .val (.long vm), .second, .val (.long vk), .second, .val (.long (vm * vk)), .second, .unset, .unset] [])) (fun t k => XS.lstore X4.here hx rfl (hb hby at_202) rfl (l' := #[.val (.long q0), .second, .val (.long q2), .second, .val (.long q4), .second, .val (.long q6), .second, .val (.long vx), .second, .val (.long vy), .second, .val (.long (own_g vx vy)), .second, .val (.int (1 : Int32)), .val (.long vm), .second, .val (.long vk), .second, .val (.long (vm * vk)), .second, .unset, .unset]) rfl k) ?_
    refine go _ (T4.setTop (mkF m 206 #[.val (.long q0), .second, .val (.long q2), .second, .val (.long q4), .second, .val (.long q6), .second, .val (.long vx), .second, .val (.long vy), .second, .val (.long (own_g vx vy)), .second, .val (.int (1 : Int32)), .val (.long vm), .second, .val (.long vk), .second, .val (.long (vm * vk)), .second, .unset, .unset] [(.long vm)])) (fun t k => XS.lload X4.here hx rfl (hb hby at_204) rfl k) ?_
    refine go _ (T4.setTop (mkF m 208 #[.val (.long q0), .second, .val (.long q2), .second, .val (.long q4), .second, .val (.long q6), .second, .val (.long vx), .second, .val (.long vy), .second, .val (.long (own_g vx vy)), .second, .val (.int (1 : Int32)), .val (.long vm), .second, .val (.long vk), .second, .val (.long (vm * vk)), .second, .unset, .unset] [(.long vk), (.long vm)])) (fun t k => XS.lload X4.here hx rfl (hb hby at_206) rfl k) ?_
    refine go _ (T4.setTop (mkF m 209 #[.val (.long q0), .second, .val (.long q2), .second, .val (.long q4), .second, .val (.long q6), .second, .val (.long vx), .second, .val (.long vy), .second, .val (.long (own_g vx vy)), .second, .val (.int (1 : Int32)), .val (.long vm), .second, .val (.long vk), .second, .val (.long (vm * vk)), .second, .unset, .unset] [(.long (1 : Int64)), (.long vk), (.long vm)])) (fun t k => XS.lconst X4.here hx rfl (hb hby at_208) k) ?_
    refine go _ (T4.setTop (mkF m 210 #[.val (.long q0), .second, .val (.long q2), .second, .val (.long q4), .second, .val (.long q6), .second, .val (.long vx), .second, .val (.long vy), .second, .val (.long (own_g vx vy)), .second, .val (.int (1 : Int32)), .val (.long vm), .second, .val (.long vk), .second, .val (.long (vm * vk)), .second, .unset, .unset] [(.long (vk + (1 : Int64))), (.long vm)])) (fun t k => XS.ladd X4.here hx rfl (hb hby at_209) rfl k) ?_
    refine go _ (T4.setTop (mkF m 211 #[.val (.long q0), .second, .val (.long q2), .second, .val (.long q4), .second, .val (.long q6), .second, .val (.long vx), .second, .val (.long vy), .second, .val (.long (own_g vx vy)), .second, .val (.int (1 : Int32)), .val (.long vm), .second, .val (.long vk), .second, .val (.long (vm * vk)), .second, .unset, .unset] [(.long (vm * (vk + (1 : Int64))))])) (fun t k => XS.lmul X4.here hx rfl (hb hby at_210) rfl k) ?_
    refine go _ (T4.setTop (mkF m 213 #[.val (.long q0), .second, .val (.long q2), .second, .val (.long q4), .second, .val (.long q6), .second, .val (.long vx), .second, .val (.long vy), .second, .val (.long (own_g vx vy)), .second, .val (.int (1 : Int32)), .val (.long vm), .second, .val (.long vk), .second, .val (.long (vm * vk)), .second, .val (.long (vm * (vk + (1 : Int64)))), .second] [])) (fun t k => XS.lstore X4.here hx rfl (hb hby at_211) rfl (l' := #[.val (.long q0), .second, .val (.long q2), .second, .val (.long q4), .second, .val (.long q6), .second, .val (.long vx), .second, .val (.long vy), .second, .val (.long (own_g vx vy)), .second, .val (.int (1 : Int32)), .val (.long vm), .second, .val (.long vk), .second, .val (.long (vm * vk)), .second, .val (.long (vm * (vk + (1 : Int64)))), .second]) rfl k) ?_
    refine go _ (T4.setTop (mkF m 215 #[.val (.long q0), .second, .val (.long q2), .second, .val (.long q4), .second, .val (.long q6), .second, .val (.long vx), .second, .val (.long vy), .second, .val (.long (own_g vx vy)), .second, .val (.int (1 : Int32)), .val (.long vm), .second, .val (.long vk), .second, .val (.long (vm * vk)), .second, .val (.long (vm * (vk + (1 : Int64)))), .second] [(.int (1 : Int32))])) (fun t k => XS.iload X4.here hx rfl (hb hby at_213) rfl k) ?_
    have hc215 : ¬ ((1 : Int32) = (0 : Int32)) := by decide
    refine go _ (T4.setTop (mkF m 218 #[.val (.long q0), .second, .val (.long q2), .second, .val (.long q4), .second, .val (.long q6), .second, .val (.long vx), .second, .val (.long vy), .second, .val (.long (own_g vx vy)), .second, .val (.int (1 : Int32)), .val (.long vm), .second, .val (.long vk), .second, .val (.long (vm * vk)), .second, .val (.long (vm * (vk + (1 : Int64)))), .second] [])) (fun t k => XS.ifNo X4.here hx rfl (hb hby at_215) rfl ((if0 _ _).trans (feq hc215).1) k) ?_
    refine go _ (T4.setTop (mkF m 220 #[.val (.long q0), .second, .val (.long q2), .second, .val (.long q4), .second, .val (.long q6), .second, .val (.long vx), .second, .val (.long vy), .second, .val (.long (own_g vx vy)), .second, .val (.int (1 : Int32)), .val (.long vm), .second, .val (.long vk), .second, .val (.long (vm * vk)), .second, .val (.long (vm * (vk + (1 : Int64)))), .second] [(.long (vm * vk))])) (fun t k => XS.lload X4.here hx rfl (hb hby at_218) rfl k) ?_
    refine go _ (T4.setTop (mkF m 222 #[.val (.long q0), .second, .val (.long q2), .second, .val (.long q4), .second, .val (.long q6), .second, .val (.long vx), .second, .val (.long vy), .second, .val (.long (own_g vx vy)), .second, .val (.int (1 : Int32)), .val (.long vm), .second, .val (.long vk), .second, .val (.long (vm * vk)), .second, .val (.long (vm * (vk + (1 : Int64)))), .second] [(.long (vm * (vk + (1 : Int64)))), (.long (vm * vk))])) (fun t k => XS.lload X4.here hx rfl (hb hby at_220) rfl k) ?_
    obtain ⟨_, _, ⟨T5, L5, k5, n5⟩, -, X5, ⟨Lc5, hQ5, l5, y5, z5⟩, st5⟩ := Jvm.LawKit.callS X4 hx (y := (⟨"com/example/debbit/debbit/budgets/WholeNumbers", "greatestCommonDivisor", "(JJ)J"⟩ : MethodName)) hown (mvT hZ (hw _ (List.mem_of_getElem? (i := 1) rfl))) (mvT hZ (hw _ (List.mem_of_getElem? (i := 2) rfl))) (mvT hZ (hw _ (List.mem_of_getElem? (i := 3) rfl))) (mvT hZ (hw _ (List.mem_of_getElem? (i := 4) rfl))) (by decide) (backOf (W := 0) (rm1 l Z a0 hw [] (vm * vk) (vm * (vk + (1 : Int64))) h0 n0 Z0 (own_pq hm hk).1 (own_pq hm hk).2.1) hZ (hw _ (List.mem_of_getElem? (i := 4) rfl)) (hw _ (List.mem_of_getElem? (i := 3) rfl)) (by decide) (by decide)) (g := (mkF m 222 #[.val (.long q0), .second, .val (.long q2), .second, .val (.long q4), .second, .val (.long q6), .second, .val (.long vx), .second, .val (.long vy), .second, .val (.long (own_g vx vy)), .second, .val (.int (1 : Int32)), .val (.long vm), .second, .val (.long vk), .second, .val (.long (vm * vk)), .second, .val (.long (vm * (vk + (1 : Int64)))), .second] [(.long (vm * (vk + (1 : Int64)))), (.long (vm * vk))])) rfl (by rw [hml]; rfl) (argsL := [(.long (vm * vk)), (.long (vm * (vk + (1 : Int64))))]) (rest := []) (lenOf own_pd_0 rfl) rfl (by show 2 * 0 + _ ≤ _; exact Nat.le_of_eq rfl) (hb hby at_222) (fun _ _ => ⟨rfl, eq4, (by decide : 0 + 0 ≤ _), (by decide : 0 + 0 ≤ _)⟩)
    dsimp only [Pt.U, Pt.locs, Pt.cells, Pt.slots] at X5 l5 y5 z5 st5 hQ5
    subst l5 y5 z5
    obtain ⟨rfl, Nq5, eq5⟩ := hQ5
    have N5 := Fr.app N4 Nq5
    refine go _ (T5.setTop (mkF m 225 #[.val (.long q0), .second, .val (.long q2), .second, .val (.long q4), .second, .val (.long q6), .second, .val (.long vx), .second, .val (.long vy), .second, .val (.long (own_g vx vy)), .second, .val (.int (1 : Int32)), .val (.long vm), .second, .val (.long vk), .second, .val (.long (vm * vk)), .second, .val (.long (vm * (vk + (1 : Int64)))), .second] [(.long (own_g (vm * vk) (vm * (vk + (1 : Int64)))))])) st5 ?_
    refine go _ (T5.setTop (mkF m 227 #[.val (.long q0), .second, .val (.long q2), .second, .val (.long q4), .second, .val (.long q6), .second, .val (.long vx), .second, .val (.long vy), .second, .val (.long (own_g vx vy)), .second, .val (.int (1 : Int32)), .val (.long vm), .second, .val (.long vk), .second, .val (.long (vm * vk)), .second, .val (.long (vm * (vk + (1 : Int64)))), .second] [(.long vm), (.long (own_g (vm * vk) (vm * (vk + (1 : Int64)))))])) (fun t k => XS.lload X5.here hx rfl (hb hby at_225) rfl k) ?_
    refine go _ (T5.setTop (mkF m 228 #[.val (.long q0), .second, .val (.long q2), .second, .val (.long q4), .second, .val (.long q6), .second, .val (.long vx), .second, .val (.long vy), .second, .val (.long (own_g vx vy)), .second, .val (.int (1 : Int32)), .val (.long vm), .second, .val (.long vk), .second, .val (.long (vm * vk)), .second, .val (.long (vm * (vk + (1 : Int64)))), .second] [(.int (lcmpW (own_g (vm * vk) (vm * (vk + (1 : Int64)))) vm))])) (fun t k => XS.lcmp X5.here hx rfl (hb hby at_227) rfl k) ?_
    have hc228 : (own_g (vm * vk) (vm * (vk + (1 : Int64)))) = vm := by exact (own_pq hm hk).2.2
    refine go _ (T5.setTop (mkF m 231 #[.val (.long q0), .second, .val (.long q2), .second, .val (.long q4), .second, .val (.long q6), .second, .val (.long vx), .second, .val (.long vy), .second, .val (.long (own_g vx vy)), .second, .val (.int (1 : Int32)), .val (.long vm), .second, .val (.long vk), .second, .val (.long (vm * vk)), .second, .val (.long (vm * (vk + (1 : Int64)))), .second] [])) (fun t k => XS.ifNo X5.here hx rfl (hb hby at_228) rfl ((if0 _ _).trans (teq ((lw_eq _ _).mpr hc228)).2) k) ?_
    refine go _ (T5.setTop (mkF m 232 #[.val (.long q0), .second, .val (.long q2), .second, .val (.long q4), .second, .val (.long q6), .second, .val (.long vx), .second, .val (.long vy), .second, .val (.long (own_g vx vy)), .second, .val (.int (1 : Int32)), .val (.long vm), .second, .val (.long vk), .second, .val (.long (vm * vk)), .second, .val (.long (vm * (vk + (1 : Int64)))), .second] [(.int (1 : Int32))])) (fun t k => XS.iconst X5.here hx rfl (hb hby at_231) k) ?_
    refine go _ (T5.setTop (mkF m 236 #[.val (.long q0), .second, .val (.long q2), .second, .val (.long q4), .second, .val (.long q6), .second, .val (.long vx), .second, .val (.long vy), .second, .val (.long (own_g vx vy)), .second, .val (.int (1 : Int32)), .val (.long vm), .second, .val (.long vk), .second, .val (.long (vm * vk)), .second, .val (.long (vm * (vk + (1 : Int64)))), .second] [(.int (1 : Int32))])) (fun t k => XS.goto X5.here hx rfl (pc0 := 232) (pc' := 236) rfl (hb hby at_232) (by decide) (by decide) k) ?_
    refine go _ (T5.setTop (mkF m 238 #[.val (.long q0), .second, .val (.long q2), .second, .val (.long q4), .second, .val (.long q6), .second, .val (.long vx), .second, .val (.long vy), .second, .val (.long (own_g vx vy)), .second, .val (.int (1 : Int32)), .val (.long vm), .second, .val (.long vk), .second, .val (.long (vm * vk)), .second, .val (.long (vm * (vk + (1 : Int64)))), .second] [])) (fun t k => XS.istore X5.here hx rfl (hb hby at_236) rfl (l' := #[.val (.long q0), .second, .val (.long q2), .second, .val (.long q4), .second, .val (.long q6), .second, .val (.long vx), .second, .val (.long vy), .second, .val (.long (own_g vx vy)), .second, .val (.int (1 : Int32)), .val (.long vm), .second, .val (.long vk), .second, .val (.long (vm * vk)), .second, .val (.long (vm * (vk + (1 : Int64)))), .second]) rfl k) ?_
    refine go _ (T5.setTop (mkF m 240 #[.val (.long q0), .second, .val (.long q2), .second, .val (.long q4), .second, .val (.long q6), .second, .val (.long vx), .second, .val (.long vy), .second, .val (.long (own_g vx vy)), .second, .val (.int (1 : Int32)), .val (.long vm), .second, .val (.long vk), .second, .val (.long (vm * vk)), .second, .val (.long (vm * (vk + (1 : Int64)))), .second] [(.int (1 : Int32))])) (fun t k => XS.iload X5.here hx rfl (hb hby at_238) rfl k) ?_
    have hc240 : ¬ ((1 : Int32) = (0 : Int32)) := by decide
    refine go _ (T5.setTop (mkF m 243 #[.val (.long q0), .second, .val (.long q2), .second, .val (.long q4), .second, .val (.long q6), .second, .val (.long vx), .second, .val (.long vy), .second, .val (.long (own_g vx vy)), .second, .val (.int (1 : Int32)), .val (.long vm), .second, .val (.long vk), .second, .val (.long (vm * vk)), .second, .val (.long (vm * (vk + (1 : Int64)))), .second] [])) (fun t k => XS.ifNo X5.here hx rfl (hb hby at_240) rfl ((if0 _ _).trans (feq hc240).1) k) ?_
    refine go _ (T5.setTop (mkF m 245 #[.val (.long q0), .second, .val (.long q2), .second, .val (.long q4), .second, .val (.long q6), .second, .val (.long vx), .second, .val (.long vy), .second, .val (.long (own_g vx vy)), .second, .val (.int (1 : Int32)), .val (.long vm), .second, .val (.long vk), .second, .val (.long (vm * vk)), .second, .val (.long (vm * (vk + (1 : Int64)))), .second] [(.long (vm * (vk + (1 : Int64))))])) (fun t k => XS.lload X5.here hx rfl (hb hby at_243) rfl k) ?_
    refine go _ (T5.setTop (mkF m 247 #[.val (.long q0), .second, .val (.long q2), .second, .val (.long q4), .second, .val (.long q6), .second, .val (.long vx), .second, .val (.long vy), .second, .val (.long (own_g vx vy)), .second, .val (.int (1 : Int32)), .val (.long vm), .second, .val (.long vk), .second, .val (.long (vm * vk)), .second, .val (.long (vm * (vk + (1 : Int64)))), .second] [(.long (vm * vk)), (.long (vm * (vk + (1 : Int64))))])) (fun t k => XS.lload X5.here hx rfl (hb hby at_245) rfl k) ?_
    obtain ⟨_, _, ⟨T6, L6, k6, n6⟩, -, X6, ⟨Lc6, hQ6, l6, y6, z6⟩, st6⟩ := Jvm.LawKit.callS X5 hx (y := (⟨"com/example/debbit/debbit/budgets/WholeNumbers", "greatestCommonDivisor", "(JJ)J"⟩ : MethodName)) hown (mvT hZ (hw _ (List.mem_of_getElem? (i := 1) rfl))) (mvT hZ (hw _ (List.mem_of_getElem? (i := 2) rfl))) (mvT hZ (hw _ (List.mem_of_getElem? (i := 3) rfl))) (mvT hZ (hw _ (List.mem_of_getElem? (i := 4) rfl))) (by decide) (backOf (W := 0) (rm1 l Z a0 hw [] (vm * (vk + (1 : Int64))) (vm * vk) h0 n0 Z0 (own_pq hm hk).2.1 (own_pq hm hk).1) hZ (hw _ (List.mem_of_getElem? (i := 4) rfl)) (hw _ (List.mem_of_getElem? (i := 3) rfl)) (by decide) (by decide)) (g := (mkF m 247 #[.val (.long q0), .second, .val (.long q2), .second, .val (.long q4), .second, .val (.long q6), .second, .val (.long vx), .second, .val (.long vy), .second, .val (.long (own_g vx vy)), .second, .val (.int (1 : Int32)), .val (.long vm), .second, .val (.long vk), .second, .val (.long (vm * vk)), .second, .val (.long (vm * (vk + (1 : Int64)))), .second] [(.long (vm * vk)), (.long (vm * (vk + (1 : Int64))))])) rfl (by rw [hml]; rfl) (argsL := [(.long (vm * (vk + (1 : Int64)))), (.long (vm * vk))]) (rest := []) (lenOf own_pd_0 rfl) rfl (by show 2 * 0 + _ ≤ _; exact Nat.le_of_eq rfl) (hb hby at_247) (fun _ _ => ⟨rfl, eq5, (by decide : 0 + 0 ≤ _), (by decide : 0 + 0 ≤ _)⟩)
    dsimp only [Pt.U, Pt.locs, Pt.cells, Pt.slots] at X6 l6 y6 z6 st6 hQ6
    subst l6 y6 z6
    obtain ⟨rfl, Nq6, eq6⟩ := hQ6
    have N6 := Fr.app N5 Nq6
    refine go _ (T6.setTop (mkF m 250 #[.val (.long q0), .second, .val (.long q2), .second, .val (.long q4), .second, .val (.long q6), .second, .val (.long vx), .second, .val (.long vy), .second, .val (.long (own_g vx vy)), .second, .val (.int (1 : Int32)), .val (.long vm), .second, .val (.long vk), .second, .val (.long (vm * vk)), .second, .val (.long (vm * (vk + (1 : Int64)))), .second] [(.long (own_g (vm * (vk + (1 : Int64))) (vm * vk)))])) st6 ?_
    refine go _ (T6.setTop (mkF m 252 #[.val (.long q0), .second, .val (.long q2), .second, .val (.long q4), .second, .val (.long q6), .second, .val (.long vx), .second, .val (.long vy), .second, .val (.long (own_g vx vy)), .second, .val (.int (1 : Int32)), .val (.long vm), .second, .val (.long vk), .second, .val (.long (vm * vk)), .second, .val (.long (vm * (vk + (1 : Int64)))), .second] [(.long vm), (.long (own_g (vm * (vk + (1 : Int64))) (vm * vk)))])) (fun t k => XS.lload X6.here hx rfl (hb hby at_250) rfl k) ?_
    refine go _ (T6.setTop (mkF m 253 #[.val (.long q0), .second, .val (.long q2), .second, .val (.long q4), .second, .val (.long q6), .second, .val (.long vx), .second, .val (.long vy), .second, .val (.long (own_g vx vy)), .second, .val (.int (1 : Int32)), .val (.long vm), .second, .val (.long vk), .second, .val (.long (vm * vk)), .second, .val (.long (vm * (vk + (1 : Int64)))), .second] [(.int (lcmpW (own_g (vm * (vk + (1 : Int64))) (vm * vk)) vm))])) (fun t k => XS.lcmp X6.here hx rfl (hb hby at_252) rfl k) ?_
    have hc253 : (own_g (vm * (vk + (1 : Int64))) (vm * vk)) = vm := by rw [own_a6]; exact (own_pq hm hk).2.2
    refine go _ (T6.setTop (mkF m 256 #[.val (.long q0), .second, .val (.long q2), .second, .val (.long q4), .second, .val (.long q6), .second, .val (.long vx), .second, .val (.long vy), .second, .val (.long (own_g vx vy)), .second, .val (.int (1 : Int32)), .val (.long vm), .second, .val (.long vk), .second, .val (.long (vm * vk)), .second, .val (.long (vm * (vk + (1 : Int64)))), .second] [])) (fun t k => XS.ifNo X6.here hx rfl (hb hby at_253) rfl ((if0 _ _).trans (teq ((lw_eq _ _).mpr hc253)).2) k) ?_
    refine go _ (T6.setTop (mkF m 257 #[.val (.long q0), .second, .val (.long q2), .second, .val (.long q4), .second, .val (.long q6), .second, .val (.long vx), .second, .val (.long vy), .second, .val (.long (own_g vx vy)), .second, .val (.int (1 : Int32)), .val (.long vm), .second, .val (.long vk), .second, .val (.long (vm * vk)), .second, .val (.long (vm * (vk + (1 : Int64)))), .second] [(.int (1 : Int32))])) (fun t k => XS.iconst X6.here hx rfl (hb hby at_256) k) ?_
    refine go _ (T6.setTop (mkF m 261 #[.val (.long q0), .second, .val (.long q2), .second, .val (.long q4), .second, .val (.long q6), .second, .val (.long vx), .second, .val (.long vy), .second, .val (.long (own_g vx vy)), .second, .val (.int (1 : Int32)), .val (.long vm), .second, .val (.long vk), .second, .val (.long (vm * vk)), .second, .val (.long (vm * (vk + (1 : Int64)))), .second] [(.int (1 : Int32))])) (fun t k => XS.goto X6.here hx rfl (pc0 := 257) (pc' := 261) rfl (hb hby at_257) (by decide) (by decide) k) ?_
    refine go _ (T6.setTop (mkF m 263 #[.val (.long q0), .second, .val (.long q2), .second, .val (.long q4), .second, .val (.long q6), .second, .val (.long vx), .second, .val (.long vy), .second, .val (.long (own_g vx vy)), .second, .val (.int (1 : Int32)), .val (.long vm), .second, .val (.long vk), .second, .val (.long (vm * vk)), .second, .val (.long (vm * (vk + (1 : Int64)))), .second] [])) (fun t k => XS.istore X6.here hx rfl (hb hby at_261) rfl (l' := #[.val (.long q0), .second, .val (.long q2), .second, .val (.long q4), .second, .val (.long q6), .second, .val (.long vx), .second, .val (.long vy), .second, .val (.long (own_g vx vy)), .second, .val (.int (1 : Int32)), .val (.long vm), .second, .val (.long vk), .second, .val (.long (vm * vk)), .second, .val (.long (vm * (vk + (1 : Int64)))), .second]) rfl k) ?_
    refine go _ (T6.setTop (mkF m 265 #[.val (.long q0), .second, .val (.long q2), .second, .val (.long q4), .second, .val (.long q6), .second, .val (.long vx), .second, .val (.long vy), .second, .val (.long (own_g vx vy)), .second, .val (.int (1 : Int32)), .val (.long vm), .second, .val (.long vk), .second, .val (.long (vm * vk)), .second, .val (.long (vm * (vk + (1 : Int64)))), .second] [(.int (1 : Int32))])) (fun t k => XS.iload X6.here hx rfl (hb hby at_263) rfl k) ?_
    refine fin (some (.int (1 : Int32))) (mkF m 265 #[.val (.long q0), .second, .val (.long q2), .second, .val (.long q4), .second, .val (.long q6), .second, .val (.long vx), .second, .val (.long vy), .second, .val (.long (own_g vx vy)), .second, .val (.int (1 : Int32)), .val (.long vm), .second, .val (.long vk), .second, .val (.long (vm * vk)), .second, .val (.long (vm * (vk + (1 : Int64)))), .second] [(.int (1 : Int32))]) X6 (fun h => by cases h) (fun fs hr => retOut X6 hx (t := .boolean) hret rfl (Or.inl ⟨rfl, by simp, _, rfl⟩) (hb hby at_265) hr) ?_ (by decide) (by decide)
    exact ⟨rfl, N6⟩
  refine go _ (T1.setTop (mkF m 25 #[.val (.long q0), .second, .val (.long q2), .second, .val (.long q4), .second, .val (.long q6), .second, .val (.long vx), .second, .val (.long vy), .second, .val (.long (own_g vx vy)), .second, .unset, .unset, .unset, .unset, .unset, .unset, .unset, .unset, .unset] [(.long vx)])) (fun t k => XS.lload X1.here hx rfl (hb hby at_23) rfl k) ?_
  refine go _ (T1.setTop (mkF m 26 #[.val (.long q0), .second, .val (.long q2), .second, .val (.long q4), .second, .val (.long q6), .second, .val (.long vx), .second, .val (.long vy), .second, .val (.long (own_g vx vy)), .second, .unset, .unset, .unset, .unset, .unset, .unset, .unset, .unset, .unset] [(.long (0 : Int64)), (.long vx)])) (fun t k => XS.lconst X1.here hx rfl (hb hby at_25) k) ?_
  refine go _ (T1.setTop (mkF m 27 #[.val (.long q0), .second, .val (.long q2), .second, .val (.long q4), .second, .val (.long q6), .second, .val (.long vx), .second, .val (.long vy), .second, .val (.long (own_g vx vy)), .second, .unset, .unset, .unset, .unset, .unset, .unset, .unset, .unset, .unset] [(.int (lcmpW vx (0 : Int64)))])) (fun t k => XS.lcmp X1.here hx rfl (hb hby at_26) rfl k) ?_
  rcases Decidable.em (vx = (0 : Int64)) with hc27 | hc27
  · refine go _ (T1.setTop (mkF m 30 #[.val (.long q0), .second, .val (.long q2), .second, .val (.long q4), .second, .val (.long q6), .second, .val (.long vx), .second, .val (.long vy), .second, .val (.long (own_g vx vy)), .second, .unset, .unset, .unset, .unset, .unset, .unset, .unset, .unset, .unset] [])) (fun t k => XS.ifNo X1.here hx rfl (hb hby at_27) rfl ((if0 _ _).trans (teq ((lw_eq _ _).mpr hc27)).2) k) ?_
    refine go _ (T1.setTop (mkF m 32 #[.val (.long q0), .second, .val (.long q2), .second, .val (.long q4), .second, .val (.long q6), .second, .val (.long vx), .second, .val (.long vy), .second, .val (.long (own_g vx vy)), .second, .unset, .unset, .unset, .unset, .unset, .unset, .unset, .unset, .unset] [(.long vy)])) (fun t k => XS.lload X1.here hx rfl (hb hby at_30) rfl k) ?_
    refine go _ (T1.setTop (mkF m 33 #[.val (.long q0), .second, .val (.long q2), .second, .val (.long q4), .second, .val (.long q6), .second, .val (.long vx), .second, .val (.long vy), .second, .val (.long (own_g vx vy)), .second, .unset, .unset, .unset, .unset, .unset, .unset, .unset, .unset, .unset] [(.long (0 : Int64)), (.long vy)])) (fun t k => XS.lconst X1.here hx rfl (hb hby at_32) k) ?_
    refine go _ (T1.setTop (mkF m 34 #[.val (.long q0), .second, .val (.long q2), .second, .val (.long q4), .second, .val (.long q6), .second, .val (.long vx), .second, .val (.long vy), .second, .val (.long (own_g vx vy)), .second, .unset, .unset, .unset, .unset, .unset, .unset, .unset, .unset, .unset] [(.int (lcmpW vy (0 : Int64)))])) (fun t k => XS.lcmp X1.here hx rfl (hb hby at_33) rfl k) ?_
    rcases Decidable.em (vy = (0 : Int64)) with hc34 | hc34
    · refine go _ (T1.setTop (mkF m 37 #[.val (.long q0), .second, .val (.long q2), .second, .val (.long q4), .second, .val (.long q6), .second, .val (.long vx), .second, .val (.long vy), .second, .val (.long (own_g vx vy)), .second, .unset, .unset, .unset, .unset, .unset, .unset, .unset, .unset, .unset] [])) (fun t k => XS.ifNo X1.here hx rfl (hb hby at_34) rfl ((if0 _ _).trans (teq ((lw_eq _ _).mpr hc34)).2) k) ?_
      refine go _ (T1.setTop (mkF m 39 #[.val (.long q0), .second, .val (.long q2), .second, .val (.long q4), .second, .val (.long q6), .second, .val (.long vx), .second, .val (.long vy), .second, .val (.long (own_g vx vy)), .second, .unset, .unset, .unset, .unset, .unset, .unset, .unset, .unset, .unset] [(.long (own_g vx vy))])) (fun t k => XS.lload X1.here hx rfl (hb hby at_37) rfl k) ?_
      refine go _ (T1.setTop (mkF m 40 #[.val (.long q0), .second, .val (.long q2), .second, .val (.long q4), .second, .val (.long q6), .second, .val (.long vx), .second, .val (.long vy), .second, .val (.long (own_g vx vy)), .second, .unset, .unset, .unset, .unset, .unset, .unset, .unset, .unset, .unset] [(.long (0 : Int64)), (.long (own_g vx vy))])) (fun t k => XS.lconst X1.here hx rfl (hb hby at_39) k) ?_
      refine go _ (T1.setTop (mkF m 41 #[.val (.long q0), .second, .val (.long q2), .second, .val (.long q4), .second, .val (.long q6), .second, .val (.long vx), .second, .val (.long vy), .second, .val (.long (own_g vx vy)), .second, .unset, .unset, .unset, .unset, .unset, .unset, .unset, .unset, .unset] [(.int (lcmpW (own_g vx vy) (0 : Int64)))])) (fun t k => XS.lcmp X1.here hx rfl (hb hby at_40) rfl k) ?_
      have hc41 : (own_g vx vy) = (0 : Int64) := by exact own_a1 hvx hvy hc27 hc34
      refine go _ (T1.setTop (mkF m 44 #[.val (.long q0), .second, .val (.long q2), .second, .val (.long q4), .second, .val (.long q6), .second, .val (.long vx), .second, .val (.long vy), .second, .val (.long (own_g vx vy)), .second, .unset, .unset, .unset, .unset, .unset, .unset, .unset, .unset, .unset] [])) (fun t k => XS.ifNo X1.here hx rfl (hb hby at_41) rfl ((if0 _ _).trans (teq ((lw_eq _ _).mpr hc41)).2) k) ?_
      refine go _ (T1.setTop (mkF m 45 #[.val (.long q0), .second, .val (.long q2), .second, .val (.long q4), .second, .val (.long q6), .second, .val (.long vx), .second, .val (.long vy), .second, .val (.long (own_g vx vy)), .second, .unset, .unset, .unset, .unset, .unset, .unset, .unset, .unset, .unset] [(.int (1 : Int32))])) (fun t k => XS.iconst X1.here hx rfl (hb hby at_44) k) ?_
      refine go _ (T1.setTop (mkF m 49 #[.val (.long q0), .second, .val (.long q2), .second, .val (.long q4), .second, .val (.long q6), .second, .val (.long vx), .second, .val (.long vy), .second, .val (.long (own_g vx vy)), .second, .unset, .unset, .unset, .unset, .unset, .unset, .unset, .unset, .unset] [(.int (1 : Int32))])) (fun t k => XS.goto X1.here hx rfl (pc0 := 45) (pc' := 49) rfl (hb hby at_45) (by decide) (by decide) k) ?_
      refine go _ (T1.setTop (mkF m 51 #[.val (.long q0), .second, .val (.long q2), .second, .val (.long q4), .second, .val (.long q6), .second, .val (.long vx), .second, .val (.long vy), .second, .val (.long (own_g vx vy)), .second, .val (.int (1 : Int32)), .unset, .unset, .unset, .unset, .unset, .unset, .unset, .unset] [])) (fun t k => XS.istore X1.here hx rfl (hb hby at_49) rfl (l' := #[.val (.long q0), .second, .val (.long q2), .second, .val (.long q4), .second, .val (.long q6), .second, .val (.long vx), .second, .val (.long vy), .second, .val (.long (own_g vx vy)), .second, .val (.int (1 : Int32)), .unset, .unset, .unset, .unset, .unset, .unset, .unset, .unset]) rfl k) ?_
      refine go _ (T1.setTop (mkF m 106 #[.val (.long q0), .second, .val (.long q2), .second, .val (.long q4), .second, .val (.long q6), .second, .val (.long vx), .second, .val (.long vy), .second, .val (.long (own_g vx vy)), .second, .val (.int (1 : Int32)), .unset, .unset, .unset, .unset, .unset, .unset, .unset, .unset] [])) (fun t k => XS.goto X1.here hx rfl (pc0 := 51) (pc' := 106) rfl (hb hby at_51) (by decide) (by decide) k) ?_
      exact j106 T1 _ X1 N1 eq1
    · refine go _ (T1.setTop (mkF m 54 #[.val (.long q0), .second, .val (.long q2), .second, .val (.long q4), .second, .val (.long q6), .second, .val (.long vx), .second, .val (.long vy), .second, .val (.long (own_g vx vy)), .second, .unset, .unset, .unset, .unset, .unset, .unset, .unset, .unset, .unset] [])) (fun t k => XS.ifYes X1.here hx rfl (pc0 := 34) (pc' := 54) rfl (hb hby at_34) rfl ((if0 _ _).trans (feq (fun q => hc34 ((lw_eq _ _).mp q))).2) (by decide) (by decide) k) ?_
      refine go _ (T1.setTop (mkF m 56 #[.val (.long q0), .second, .val (.long q2), .second, .val (.long q4), .second, .val (.long q6), .second, .val (.long vx), .second, .val (.long vy), .second, .val (.long (own_g vx vy)), .second, .unset, .unset, .unset, .unset, .unset, .unset, .unset, .unset, .unset] [(.long (own_g vx vy))])) (fun t k => XS.lload X1.here hx rfl (hb hby at_54) rfl k) ?_
      refine go _ (T1.setTop (mkF m 57 #[.val (.long q0), .second, .val (.long q2), .second, .val (.long q4), .second, .val (.long q6), .second, .val (.long vx), .second, .val (.long vy), .second, .val (.long (own_g vx vy)), .second, .unset, .unset, .unset, .unset, .unset, .unset, .unset, .unset, .unset] [(.long (0 : Int64)), (.long (own_g vx vy))])) (fun t k => XS.lconst X1.here hx rfl (hb hby at_56) k) ?_
      refine go _ (T1.setTop (mkF m 58 #[.val (.long q0), .second, .val (.long q2), .second, .val (.long q4), .second, .val (.long q6), .second, .val (.long vx), .second, .val (.long vy), .second, .val (.long (own_g vx vy)), .second, .unset, .unset, .unset, .unset, .unset, .unset, .unset, .unset, .unset] [(.int (lcmpW (own_g vx vy) (0 : Int64)))])) (fun t k => XS.lcmp X1.here hx rfl (hb hby at_57) rfl k) ?_
      have hc58 : (0 : Int64) < (own_g vx vy) := by exact own_a2 hvx hvy (Or.inr hc34)
      refine go _ (T1.setTop (mkF m 61 #[.val (.long q0), .second, .val (.long q2), .second, .val (.long q4), .second, .val (.long q6), .second, .val (.long vx), .second, .val (.long vy), .second, .val (.long (own_g vx vy)), .second, .unset, .unset, .unset, .unset, .unset, .unset, .unset, .unset, .unset] [])) (fun t k => XS.ifNo X1.here hx rfl (hb hby at_58) rfl ((if0 _ _).trans (tlt ((lw_gt _ _).mpr hc58)).2.2.2) k) ?_
      refine go _ (T1.setTop (mkF m 63 #[.val (.long q0), .second, .val (.long q2), .second, .val (.long q4), .second, .val (.long q6), .second, .val (.long vx), .second, .val (.long vy), .second, .val (.long (own_g vx vy)), .second, .unset, .unset, .unset, .unset, .unset, .unset, .unset, .unset, .unset] [(.long vx)])) (fun t k => XS.lload X1.here hx rfl (hb hby at_61) rfl k) ?_
      refine go _ (T1.setTop (mkF m 65 #[.val (.long q0), .second, .val (.long q2), .second, .val (.long q4), .second, .val (.long q6), .second, .val (.long vx), .second, .val (.long vy), .second, .val (.long (own_g vx vy)), .second, .unset, .unset, .unset, .unset, .unset, .unset, .unset, .unset, .unset] [(.long (own_g vx vy)), (.long vx)])) (fun t k => XS.lload X1.here hx rfl (hb hby at_63) rfl k) ?_
      refine go _ (T1.setTop (mkF m 66 #[.val (.long q0), .second, .val (.long q2), .second, .val (.long q4), .second, .val (.long q6), .second, .val (.long vx), .second, .val (.long vy), .second, .val (.long (own_g vx vy)), .second, .unset, .unset, .unset, .unset, .unset, .unset, .unset, .unset, .unset] [(.long (vx % (own_g vx vy)))])) (fun t k => own_lrem X1.here hx rfl (hb hby at_65) rfl (show (own_g vx vy) ≠ 0 from own_pn hc58) k) ?_
      refine go _ (T1.setTop (mkF m 67 #[.val (.long q0), .second, .val (.long q2), .second, .val (.long q4), .second, .val (.long q6), .second, .val (.long vx), .second, .val (.long vy), .second, .val (.long (own_g vx vy)), .second, .unset, .unset, .unset, .unset, .unset, .unset, .unset, .unset, .unset] [(.long (0 : Int64)), (.long (vx % (own_g vx vy)))])) (fun t k => XS.lconst X1.here hx rfl (hb hby at_66) k) ?_
      refine go _ (T1.setTop (mkF m 68 #[.val (.long q0), .second, .val (.long q2), .second, .val (.long q4), .second, .val (.long q6), .second, .val (.long vx), .second, .val (.long vy), .second, .val (.long (own_g vx vy)), .second, .unset, .unset, .unset, .unset, .unset, .unset, .unset, .unset, .unset] [(.int (lcmpW (vx % (own_g vx vy)) (0 : Int64)))])) (fun t k => XS.lcmp X1.here hx rfl (hb hby at_67) rfl k) ?_
      have hc68 : (vx % (own_g vx vy)) = (0 : Int64) := by exact own_a3 hvx hvy hc58
      refine go _ (T1.setTop (mkF m 71 #[.val (.long q0), .second, .val (.long q2), .second, .val (.long q4), .second, .val (.long q6), .second, .val (.long vx), .second, .val (.long vy), .second, .val (.long (own_g vx vy)), .second, .unset, .unset, .unset, .unset, .unset, .unset, .unset, .unset, .unset] [])) (fun t k => XS.ifNo X1.here hx rfl (hb hby at_68) rfl ((if0 _ _).trans (teq ((lw_eq _ _).mpr hc68)).2) k) ?_
      refine go _ (T1.setTop (mkF m 73 #[.val (.long q0), .second, .val (.long q2), .second, .val (.long q4), .second, .val (.long q6), .second, .val (.long vx), .second, .val (.long vy), .second, .val (.long (own_g vx vy)), .second, .unset, .unset, .unset, .unset, .unset, .unset, .unset, .unset, .unset] [(.long vy)])) (fun t k => XS.lload X1.here hx rfl (hb hby at_71) rfl k) ?_
      refine go _ (T1.setTop (mkF m 75 #[.val (.long q0), .second, .val (.long q2), .second, .val (.long q4), .second, .val (.long q6), .second, .val (.long vx), .second, .val (.long vy), .second, .val (.long (own_g vx vy)), .second, .unset, .unset, .unset, .unset, .unset, .unset, .unset, .unset, .unset] [(.long (own_g vx vy)), (.long vy)])) (fun t k => XS.lload X1.here hx rfl (hb hby at_73) rfl k) ?_
      refine go _ (T1.setTop (mkF m 76 #[.val (.long q0), .second, .val (.long q2), .second, .val (.long q4), .second, .val (.long q6), .second, .val (.long vx), .second, .val (.long vy), .second, .val (.long (own_g vx vy)), .second, .unset, .unset, .unset, .unset, .unset, .unset, .unset, .unset, .unset] [(.long (vy % (own_g vx vy)))])) (fun t k => own_lrem X1.here hx rfl (hb hby at_75) rfl (show (own_g vx vy) ≠ 0 from own_pn hc58) k) ?_
      refine go _ (T1.setTop (mkF m 77 #[.val (.long q0), .second, .val (.long q2), .second, .val (.long q4), .second, .val (.long q6), .second, .val (.long vx), .second, .val (.long vy), .second, .val (.long (own_g vx vy)), .second, .unset, .unset, .unset, .unset, .unset, .unset, .unset, .unset, .unset] [(.long (0 : Int64)), (.long (vy % (own_g vx vy)))])) (fun t k => XS.lconst X1.here hx rfl (hb hby at_76) k) ?_
      refine go _ (T1.setTop (mkF m 78 #[.val (.long q0), .second, .val (.long q2), .second, .val (.long q4), .second, .val (.long q6), .second, .val (.long vx), .second, .val (.long vy), .second, .val (.long (own_g vx vy)), .second, .unset, .unset, .unset, .unset, .unset, .unset, .unset, .unset, .unset] [(.int (lcmpW (vy % (own_g vx vy)) (0 : Int64)))])) (fun t k => XS.lcmp X1.here hx rfl (hb hby at_77) rfl k) ?_
      have hc78 : (vy % (own_g vx vy)) = (0 : Int64) := by exact own_a4 hvx hvy hc58
      refine go _ (T1.setTop (mkF m 81 #[.val (.long q0), .second, .val (.long q2), .second, .val (.long q4), .second, .val (.long q6), .second, .val (.long vx), .second, .val (.long vy), .second, .val (.long (own_g vx vy)), .second, .unset, .unset, .unset, .unset, .unset, .unset, .unset, .unset, .unset] [])) (fun t k => XS.ifNo X1.here hx rfl (hb hby at_78) rfl ((if0 _ _).trans (teq ((lw_eq _ _).mpr hc78)).2) k) ?_
      refine go _ (T1.setTop (mkF m 83 #[.val (.long q0), .second, .val (.long q2), .second, .val (.long q4), .second, .val (.long q6), .second, .val (.long vx), .second, .val (.long vy), .second, .val (.long (own_g vx vy)), .second, .unset, .unset, .unset, .unset, .unset, .unset, .unset, .unset, .unset] [(.long vx)])) (fun t k => XS.lload X1.here hx rfl (hb hby at_81) rfl k) ?_
      refine go _ (T1.setTop (mkF m 85 #[.val (.long q0), .second, .val (.long q2), .second, .val (.long q4), .second, .val (.long q6), .second, .val (.long vx), .second, .val (.long vy), .second, .val (.long (own_g vx vy)), .second, .unset, .unset, .unset, .unset, .unset, .unset, .unset, .unset, .unset] [(.long (own_g vx vy)), (.long vx)])) (fun t k => XS.lload X1.here hx rfl (hb hby at_83) rfl k) ?_
      refine go _ (T1.setTop (mkF m 86 #[.val (.long q0), .second, .val (.long q2), .second, .val (.long q4), .second, .val (.long q6), .second, .val (.long vx), .second, .val (.long vy), .second, .val (.long (own_g vx vy)), .second, .unset, .unset, .unset, .unset, .unset, .unset, .unset, .unset, .unset] [(.long (vx / (own_g vx vy)))])) (fun t k => XS.ldiv X1.here hx rfl (hb hby at_85) rfl (show (own_g vx vy) ≠ 0 from own_pn hc58) k) ?_
      refine go _ (T1.setTop (mkF m 88 #[.val (.long q0), .second, .val (.long q2), .second, .val (.long q4), .second, .val (.long q6), .second, .val (.long vx), .second, .val (.long vy), .second, .val (.long (own_g vx vy)), .second, .unset, .unset, .unset, .unset, .unset, .unset, .unset, .unset, .unset] [(.long vy), (.long (vx / (own_g vx vy)))])) (fun t k => XS.lload X1.here hx rfl (hb hby at_86) rfl k) ?_
      refine go _ (T1.setTop (mkF m 90 #[.val (.long q0), .second, .val (.long q2), .second, .val (.long q4), .second, .val (.long q6), .second, .val (.long vx), .second, .val (.long vy), .second, .val (.long (own_g vx vy)), .second, .unset, .unset, .unset, .unset, .unset, .unset, .unset, .unset, .unset] [(.long (own_g vx vy)), (.long vy), (.long (vx / (own_g vx vy)))])) (fun t k => XS.lload X1.here hx rfl (hb hby at_88) rfl k) ?_
      refine go _ (T1.setTop (mkF m 91 #[.val (.long q0), .second, .val (.long q2), .second, .val (.long q4), .second, .val (.long q6), .second, .val (.long vx), .second, .val (.long vy), .second, .val (.long (own_g vx vy)), .second, .unset, .unset, .unset, .unset, .unset, .unset, .unset, .unset, .unset] [(.long (vy / (own_g vx vy))), (.long (vx / (own_g vx vy)))])) (fun t k => XS.ldiv X1.here hx rfl (hb hby at_90) rfl (show (own_g vx vy) ≠ 0 from own_pn hc58) k) ?_
      obtain ⟨_, _, ⟨T7, L7, k7, n7⟩, -, X7, ⟨Lc7, hQ7, l7, y7, z7⟩, st7⟩ := Jvm.LawKit.callS X1 hx (y := (⟨"com/example/debbit/debbit/budgets/WholeNumbers", "greatestCommonDivisor", "(JJ)J"⟩ : MethodName)) hown (mvT hZ (hw _ (List.mem_of_getElem? (i := 1) rfl))) (mvT hZ (hw _ (List.mem_of_getElem? (i := 2) rfl))) (mvT hZ (hw _ (List.mem_of_getElem? (i := 3) rfl))) (mvT hZ (hw _ (List.mem_of_getElem? (i := 4) rfl))) (by decide) (backOf (W := 0) (rm1 l Z a0 hw [] (vx / (own_g vx vy)) (vy / (own_g vx vy)) h0 n0 Z0 (own_div hvx hc58).2 (own_div hvy hc58).2) hZ (hw _ (List.mem_of_getElem? (i := 4) rfl)) (hw _ (List.mem_of_getElem? (i := 3) rfl)) (by decide) (by decide)) (g := (mkF m 91 #[.val (.long q0), .second, .val (.long q2), .second, .val (.long q4), .second, .val (.long q6), .second, .val (.long vx), .second, .val (.long vy), .second, .val (.long (own_g vx vy)), .second, .unset, .unset, .unset, .unset, .unset, .unset, .unset, .unset, .unset] [(.long (vy / (own_g vx vy))), (.long (vx / (own_g vx vy)))])) rfl (by rw [hml]; rfl) (argsL := [(.long (vx / (own_g vx vy))), (.long (vy / (own_g vx vy)))]) (rest := []) (lenOf own_pd_0 rfl) rfl (by show 2 * 0 + _ ≤ _; exact Nat.le_of_eq rfl) (hb hby at_91) (fun _ _ => ⟨rfl, eq1, (by decide : 0 + 0 ≤ _), (by decide : 0 + 0 ≤ _)⟩)
      dsimp only [Pt.U, Pt.locs, Pt.cells, Pt.slots] at X7 l7 y7 z7 st7 hQ7
      subst l7 y7 z7
      obtain ⟨rfl, Nq7, eq7⟩ := hQ7
      have N7 := Fr.app N1 Nq7
      refine go _ (T7.setTop (mkF m 94 #[.val (.long q0), .second, .val (.long q2), .second, .val (.long q4), .second, .val (.long q6), .second, .val (.long vx), .second, .val (.long vy), .second, .val (.long (own_g vx vy)), .second, .unset, .unset, .unset, .unset, .unset, .unset, .unset, .unset, .unset] [(.long (own_g (vx / (own_g vx vy)) (vy / (own_g vx vy))))])) st7 ?_
      refine go _ (T7.setTop (mkF m 95 #[.val (.long q0), .second, .val (.long q2), .second, .val (.long q4), .second, .val (.long q6), .second, .val (.long vx), .second, .val (.long vy), .second, .val (.long (own_g vx vy)), .second, .unset, .unset, .unset, .unset, .unset, .unset, .unset, .unset, .unset] [(.long (1 : Int64)), (.long (own_g (vx / (own_g vx vy)) (vy / (own_g vx vy))))])) (fun t k => XS.lconst X7.here hx rfl (hb hby at_94) k) ?_
      refine go _ (T7.setTop (mkF m 96 #[.val (.long q0), .second, .val (.long q2), .second, .val (.long q4), .second, .val (.long q6), .second, .val (.long vx), .second, .val (.long vy), .second, .val (.long (own_g vx vy)), .second, .unset, .unset, .unset, .unset, .unset, .unset, .unset, .unset, .unset] [(.int (lcmpW (own_g (vx / (own_g vx vy)) (vy / (own_g vx vy))) (1 : Int64)))])) (fun t k => XS.lcmp X7.here hx rfl (hb hby at_95) rfl k) ?_
      have hc96 : (own_g (vx / (own_g vx vy)) (vy / (own_g vx vy))) = (1 : Int64) := by exact own_a5 hvx hvy hc58
      refine go _ (T7.setTop (mkF m 99 #[.val (.long q0), .second, .val (.long q2), .second, .val (.long q4), .second, .val (.long q6), .second, .val (.long vx), .second, .val (.long vy), .second, .val (.long (own_g vx vy)), .second, .unset, .unset, .unset, .unset, .unset, .unset, .unset, .unset, .unset] [])) (fun t k => XS.ifNo X7.here hx rfl (hb hby at_96) rfl ((if0 _ _).trans (teq ((lw_eq _ _).mpr hc96)).2) k) ?_
      refine go _ (T7.setTop (mkF m 100 #[.val (.long q0), .second, .val (.long q2), .second, .val (.long q4), .second, .val (.long q6), .second, .val (.long vx), .second, .val (.long vy), .second, .val (.long (own_g vx vy)), .second, .unset, .unset, .unset, .unset, .unset, .unset, .unset, .unset, .unset] [(.int (1 : Int32))])) (fun t k => XS.iconst X7.here hx rfl (hb hby at_99) k) ?_
      refine go _ (T7.setTop (mkF m 104 #[.val (.long q0), .second, .val (.long q2), .second, .val (.long q4), .second, .val (.long q6), .second, .val (.long vx), .second, .val (.long vy), .second, .val (.long (own_g vx vy)), .second, .unset, .unset, .unset, .unset, .unset, .unset, .unset, .unset, .unset] [(.int (1 : Int32))])) (fun t k => XS.goto X7.here hx rfl (pc0 := 100) (pc' := 104) rfl (hb hby at_100) (by decide) (by decide) k) ?_
      refine go _ (T7.setTop (mkF m 106 #[.val (.long q0), .second, .val (.long q2), .second, .val (.long q4), .second, .val (.long q6), .second, .val (.long vx), .second, .val (.long vy), .second, .val (.long (own_g vx vy)), .second, .val (.int (1 : Int32)), .unset, .unset, .unset, .unset, .unset, .unset, .unset, .unset] [])) (fun t k => XS.istore X7.here hx rfl (hb hby at_104) rfl (l' := #[.val (.long q0), .second, .val (.long q2), .second, .val (.long q4), .second, .val (.long q6), .second, .val (.long vx), .second, .val (.long vy), .second, .val (.long (own_g vx vy)), .second, .val (.int (1 : Int32)), .unset, .unset, .unset, .unset, .unset, .unset, .unset, .unset]) rfl k) ?_
      exact j106 T7 _ X7 N7 eq7
  · refine go _ (T1.setTop (mkF m 54 #[.val (.long q0), .second, .val (.long q2), .second, .val (.long q4), .second, .val (.long q6), .second, .val (.long vx), .second, .val (.long vy), .second, .val (.long (own_g vx vy)), .second, .unset, .unset, .unset, .unset, .unset, .unset, .unset, .unset, .unset] [])) (fun t k => XS.ifYes X1.here hx rfl (pc0 := 27) (pc' := 54) rfl (hb hby at_27) rfl ((if0 _ _).trans (feq (fun q => hc27 ((lw_eq _ _).mp q))).2) (by decide) (by decide) k) ?_
    refine go _ (T1.setTop (mkF m 56 #[.val (.long q0), .second, .val (.long q2), .second, .val (.long q4), .second, .val (.long q6), .second, .val (.long vx), .second, .val (.long vy), .second, .val (.long (own_g vx vy)), .second, .unset, .unset, .unset, .unset, .unset, .unset, .unset, .unset, .unset] [(.long (own_g vx vy))])) (fun t k => XS.lload X1.here hx rfl (hb hby at_54) rfl k) ?_
    refine go _ (T1.setTop (mkF m 57 #[.val (.long q0), .second, .val (.long q2), .second, .val (.long q4), .second, .val (.long q6), .second, .val (.long vx), .second, .val (.long vy), .second, .val (.long (own_g vx vy)), .second, .unset, .unset, .unset, .unset, .unset, .unset, .unset, .unset, .unset] [(.long (0 : Int64)), (.long (own_g vx vy))])) (fun t k => XS.lconst X1.here hx rfl (hb hby at_56) k) ?_
    refine go _ (T1.setTop (mkF m 58 #[.val (.long q0), .second, .val (.long q2), .second, .val (.long q4), .second, .val (.long q6), .second, .val (.long vx), .second, .val (.long vy), .second, .val (.long (own_g vx vy)), .second, .unset, .unset, .unset, .unset, .unset, .unset, .unset, .unset, .unset] [(.int (lcmpW (own_g vx vy) (0 : Int64)))])) (fun t k => XS.lcmp X1.here hx rfl (hb hby at_57) rfl k) ?_
    have hc58 : (0 : Int64) < (own_g vx vy) := by exact own_a2 hvx hvy (Or.inl hc27)
    refine go _ (T1.setTop (mkF m 61 #[.val (.long q0), .second, .val (.long q2), .second, .val (.long q4), .second, .val (.long q6), .second, .val (.long vx), .second, .val (.long vy), .second, .val (.long (own_g vx vy)), .second, .unset, .unset, .unset, .unset, .unset, .unset, .unset, .unset, .unset] [])) (fun t k => XS.ifNo X1.here hx rfl (hb hby at_58) rfl ((if0 _ _).trans (tlt ((lw_gt _ _).mpr hc58)).2.2.2) k) ?_
    refine go _ (T1.setTop (mkF m 63 #[.val (.long q0), .second, .val (.long q2), .second, .val (.long q4), .second, .val (.long q6), .second, .val (.long vx), .second, .val (.long vy), .second, .val (.long (own_g vx vy)), .second, .unset, .unset, .unset, .unset, .unset, .unset, .unset, .unset, .unset] [(.long vx)])) (fun t k => XS.lload X1.here hx rfl (hb hby at_61) rfl k) ?_
    refine go _ (T1.setTop (mkF m 65 #[.val (.long q0), .second, .val (.long q2), .second, .val (.long q4), .second, .val (.long q6), .second, .val (.long vx), .second, .val (.long vy), .second, .val (.long (own_g vx vy)), .second, .unset, .unset, .unset, .unset, .unset, .unset, .unset, .unset, .unset] [(.long (own_g vx vy)), (.long vx)])) (fun t k => XS.lload X1.here hx rfl (hb hby at_63) rfl k) ?_
    refine go _ (T1.setTop (mkF m 66 #[.val (.long q0), .second, .val (.long q2), .second, .val (.long q4), .second, .val (.long q6), .second, .val (.long vx), .second, .val (.long vy), .second, .val (.long (own_g vx vy)), .second, .unset, .unset, .unset, .unset, .unset, .unset, .unset, .unset, .unset] [(.long (vx % (own_g vx vy)))])) (fun t k => own_lrem X1.here hx rfl (hb hby at_65) rfl (show (own_g vx vy) ≠ 0 from own_pn hc58) k) ?_
    refine go _ (T1.setTop (mkF m 67 #[.val (.long q0), .second, .val (.long q2), .second, .val (.long q4), .second, .val (.long q6), .second, .val (.long vx), .second, .val (.long vy), .second, .val (.long (own_g vx vy)), .second, .unset, .unset, .unset, .unset, .unset, .unset, .unset, .unset, .unset] [(.long (0 : Int64)), (.long (vx % (own_g vx vy)))])) (fun t k => XS.lconst X1.here hx rfl (hb hby at_66) k) ?_
    refine go _ (T1.setTop (mkF m 68 #[.val (.long q0), .second, .val (.long q2), .second, .val (.long q4), .second, .val (.long q6), .second, .val (.long vx), .second, .val (.long vy), .second, .val (.long (own_g vx vy)), .second, .unset, .unset, .unset, .unset, .unset, .unset, .unset, .unset, .unset] [(.int (lcmpW (vx % (own_g vx vy)) (0 : Int64)))])) (fun t k => XS.lcmp X1.here hx rfl (hb hby at_67) rfl k) ?_
    have hc68 : (vx % (own_g vx vy)) = (0 : Int64) := by exact own_a3 hvx hvy hc58
    refine go _ (T1.setTop (mkF m 71 #[.val (.long q0), .second, .val (.long q2), .second, .val (.long q4), .second, .val (.long q6), .second, .val (.long vx), .second, .val (.long vy), .second, .val (.long (own_g vx vy)), .second, .unset, .unset, .unset, .unset, .unset, .unset, .unset, .unset, .unset] [])) (fun t k => XS.ifNo X1.here hx rfl (hb hby at_68) rfl ((if0 _ _).trans (teq ((lw_eq _ _).mpr hc68)).2) k) ?_
    refine go _ (T1.setTop (mkF m 73 #[.val (.long q0), .second, .val (.long q2), .second, .val (.long q4), .second, .val (.long q6), .second, .val (.long vx), .second, .val (.long vy), .second, .val (.long (own_g vx vy)), .second, .unset, .unset, .unset, .unset, .unset, .unset, .unset, .unset, .unset] [(.long vy)])) (fun t k => XS.lload X1.here hx rfl (hb hby at_71) rfl k) ?_
    refine go _ (T1.setTop (mkF m 75 #[.val (.long q0), .second, .val (.long q2), .second, .val (.long q4), .second, .val (.long q6), .second, .val (.long vx), .second, .val (.long vy), .second, .val (.long (own_g vx vy)), .second, .unset, .unset, .unset, .unset, .unset, .unset, .unset, .unset, .unset] [(.long (own_g vx vy)), (.long vy)])) (fun t k => XS.lload X1.here hx rfl (hb hby at_73) rfl k) ?_
    refine go _ (T1.setTop (mkF m 76 #[.val (.long q0), .second, .val (.long q2), .second, .val (.long q4), .second, .val (.long q6), .second, .val (.long vx), .second, .val (.long vy), .second, .val (.long (own_g vx vy)), .second, .unset, .unset, .unset, .unset, .unset, .unset, .unset, .unset, .unset] [(.long (vy % (own_g vx vy)))])) (fun t k => own_lrem X1.here hx rfl (hb hby at_75) rfl (show (own_g vx vy) ≠ 0 from own_pn hc58) k) ?_
    refine go _ (T1.setTop (mkF m 77 #[.val (.long q0), .second, .val (.long q2), .second, .val (.long q4), .second, .val (.long q6), .second, .val (.long vx), .second, .val (.long vy), .second, .val (.long (own_g vx vy)), .second, .unset, .unset, .unset, .unset, .unset, .unset, .unset, .unset, .unset] [(.long (0 : Int64)), (.long (vy % (own_g vx vy)))])) (fun t k => XS.lconst X1.here hx rfl (hb hby at_76) k) ?_
    refine go _ (T1.setTop (mkF m 78 #[.val (.long q0), .second, .val (.long q2), .second, .val (.long q4), .second, .val (.long q6), .second, .val (.long vx), .second, .val (.long vy), .second, .val (.long (own_g vx vy)), .second, .unset, .unset, .unset, .unset, .unset, .unset, .unset, .unset, .unset] [(.int (lcmpW (vy % (own_g vx vy)) (0 : Int64)))])) (fun t k => XS.lcmp X1.here hx rfl (hb hby at_77) rfl k) ?_
    have hc78 : (vy % (own_g vx vy)) = (0 : Int64) := by exact own_a4 hvx hvy hc58
    refine go _ (T1.setTop (mkF m 81 #[.val (.long q0), .second, .val (.long q2), .second, .val (.long q4), .second, .val (.long q6), .second, .val (.long vx), .second, .val (.long vy), .second, .val (.long (own_g vx vy)), .second, .unset, .unset, .unset, .unset, .unset, .unset, .unset, .unset, .unset] [])) (fun t k => XS.ifNo X1.here hx rfl (hb hby at_78) rfl ((if0 _ _).trans (teq ((lw_eq _ _).mpr hc78)).2) k) ?_
    refine go _ (T1.setTop (mkF m 83 #[.val (.long q0), .second, .val (.long q2), .second, .val (.long q4), .second, .val (.long q6), .second, .val (.long vx), .second, .val (.long vy), .second, .val (.long (own_g vx vy)), .second, .unset, .unset, .unset, .unset, .unset, .unset, .unset, .unset, .unset] [(.long vx)])) (fun t k => XS.lload X1.here hx rfl (hb hby at_81) rfl k) ?_
    refine go _ (T1.setTop (mkF m 85 #[.val (.long q0), .second, .val (.long q2), .second, .val (.long q4), .second, .val (.long q6), .second, .val (.long vx), .second, .val (.long vy), .second, .val (.long (own_g vx vy)), .second, .unset, .unset, .unset, .unset, .unset, .unset, .unset, .unset, .unset] [(.long (own_g vx vy)), (.long vx)])) (fun t k => XS.lload X1.here hx rfl (hb hby at_83) rfl k) ?_
    refine go _ (T1.setTop (mkF m 86 #[.val (.long q0), .second, .val (.long q2), .second, .val (.long q4), .second, .val (.long q6), .second, .val (.long vx), .second, .val (.long vy), .second, .val (.long (own_g vx vy)), .second, .unset, .unset, .unset, .unset, .unset, .unset, .unset, .unset, .unset] [(.long (vx / (own_g vx vy)))])) (fun t k => XS.ldiv X1.here hx rfl (hb hby at_85) rfl (show (own_g vx vy) ≠ 0 from own_pn hc58) k) ?_
    refine go _ (T1.setTop (mkF m 88 #[.val (.long q0), .second, .val (.long q2), .second, .val (.long q4), .second, .val (.long q6), .second, .val (.long vx), .second, .val (.long vy), .second, .val (.long (own_g vx vy)), .second, .unset, .unset, .unset, .unset, .unset, .unset, .unset, .unset, .unset] [(.long vy), (.long (vx / (own_g vx vy)))])) (fun t k => XS.lload X1.here hx rfl (hb hby at_86) rfl k) ?_
    refine go _ (T1.setTop (mkF m 90 #[.val (.long q0), .second, .val (.long q2), .second, .val (.long q4), .second, .val (.long q6), .second, .val (.long vx), .second, .val (.long vy), .second, .val (.long (own_g vx vy)), .second, .unset, .unset, .unset, .unset, .unset, .unset, .unset, .unset, .unset] [(.long (own_g vx vy)), (.long vy), (.long (vx / (own_g vx vy)))])) (fun t k => XS.lload X1.here hx rfl (hb hby at_88) rfl k) ?_
    refine go _ (T1.setTop (mkF m 91 #[.val (.long q0), .second, .val (.long q2), .second, .val (.long q4), .second, .val (.long q6), .second, .val (.long vx), .second, .val (.long vy), .second, .val (.long (own_g vx vy)), .second, .unset, .unset, .unset, .unset, .unset, .unset, .unset, .unset, .unset] [(.long (vy / (own_g vx vy))), (.long (vx / (own_g vx vy)))])) (fun t k => XS.ldiv X1.here hx rfl (hb hby at_90) rfl (show (own_g vx vy) ≠ 0 from own_pn hc58) k) ?_
    obtain ⟨_, _, ⟨T8, L8, k8, n8⟩, -, X8, ⟨Lc8, hQ8, l8, y8, z8⟩, st8⟩ := Jvm.LawKit.callS X1 hx (y := (⟨"com/example/debbit/debbit/budgets/WholeNumbers", "greatestCommonDivisor", "(JJ)J"⟩ : MethodName)) hown (mvT hZ (hw _ (List.mem_of_getElem? (i := 1) rfl))) (mvT hZ (hw _ (List.mem_of_getElem? (i := 2) rfl))) (mvT hZ (hw _ (List.mem_of_getElem? (i := 3) rfl))) (mvT hZ (hw _ (List.mem_of_getElem? (i := 4) rfl))) (by decide) (backOf (W := 0) (rm1 l Z a0 hw [] (vx / (own_g vx vy)) (vy / (own_g vx vy)) h0 n0 Z0 (own_div hvx hc58).2 (own_div hvy hc58).2) hZ (hw _ (List.mem_of_getElem? (i := 4) rfl)) (hw _ (List.mem_of_getElem? (i := 3) rfl)) (by decide) (by decide)) (g := (mkF m 91 #[.val (.long q0), .second, .val (.long q2), .second, .val (.long q4), .second, .val (.long q6), .second, .val (.long vx), .second, .val (.long vy), .second, .val (.long (own_g vx vy)), .second, .unset, .unset, .unset, .unset, .unset, .unset, .unset, .unset, .unset] [(.long (vy / (own_g vx vy))), (.long (vx / (own_g vx vy)))])) rfl (by rw [hml]; rfl) (argsL := [(.long (vx / (own_g vx vy))), (.long (vy / (own_g vx vy)))]) (rest := []) (lenOf own_pd_0 rfl) rfl (by show 2 * 0 + _ ≤ _; exact Nat.le_of_eq rfl) (hb hby at_91) (fun _ _ => ⟨rfl, eq1, (by decide : 0 + 0 ≤ _), (by decide : 0 + 0 ≤ _)⟩)
    dsimp only [Pt.U, Pt.locs, Pt.cells, Pt.slots] at X8 l8 y8 z8 st8 hQ8
    subst l8 y8 z8
    obtain ⟨rfl, Nq8, eq8⟩ := hQ8
    have N8 := Fr.app N1 Nq8
    refine go _ (T8.setTop (mkF m 94 #[.val (.long q0), .second, .val (.long q2), .second, .val (.long q4), .second, .val (.long q6), .second, .val (.long vx), .second, .val (.long vy), .second, .val (.long (own_g vx vy)), .second, .unset, .unset, .unset, .unset, .unset, .unset, .unset, .unset, .unset] [(.long (own_g (vx / (own_g vx vy)) (vy / (own_g vx vy))))])) st8 ?_
    refine go _ (T8.setTop (mkF m 95 #[.val (.long q0), .second, .val (.long q2), .second, .val (.long q4), .second, .val (.long q6), .second, .val (.long vx), .second, .val (.long vy), .second, .val (.long (own_g vx vy)), .second, .unset, .unset, .unset, .unset, .unset, .unset, .unset, .unset, .unset] [(.long (1 : Int64)), (.long (own_g (vx / (own_g vx vy)) (vy / (own_g vx vy))))])) (fun t k => XS.lconst X8.here hx rfl (hb hby at_94) k) ?_
    refine go _ (T8.setTop (mkF m 96 #[.val (.long q0), .second, .val (.long q2), .second, .val (.long q4), .second, .val (.long q6), .second, .val (.long vx), .second, .val (.long vy), .second, .val (.long (own_g vx vy)), .second, .unset, .unset, .unset, .unset, .unset, .unset, .unset, .unset, .unset] [(.int (lcmpW (own_g (vx / (own_g vx vy)) (vy / (own_g vx vy))) (1 : Int64)))])) (fun t k => XS.lcmp X8.here hx rfl (hb hby at_95) rfl k) ?_
    have hc96 : (own_g (vx / (own_g vx vy)) (vy / (own_g vx vy))) = (1 : Int64) := by exact own_a5 hvx hvy hc58
    refine go _ (T8.setTop (mkF m 99 #[.val (.long q0), .second, .val (.long q2), .second, .val (.long q4), .second, .val (.long q6), .second, .val (.long vx), .second, .val (.long vy), .second, .val (.long (own_g vx vy)), .second, .unset, .unset, .unset, .unset, .unset, .unset, .unset, .unset, .unset] [])) (fun t k => XS.ifNo X8.here hx rfl (hb hby at_96) rfl ((if0 _ _).trans (teq ((lw_eq _ _).mpr hc96)).2) k) ?_
    refine go _ (T8.setTop (mkF m 100 #[.val (.long q0), .second, .val (.long q2), .second, .val (.long q4), .second, .val (.long q6), .second, .val (.long vx), .second, .val (.long vy), .second, .val (.long (own_g vx vy)), .second, .unset, .unset, .unset, .unset, .unset, .unset, .unset, .unset, .unset] [(.int (1 : Int32))])) (fun t k => XS.iconst X8.here hx rfl (hb hby at_99) k) ?_
    refine go _ (T8.setTop (mkF m 104 #[.val (.long q0), .second, .val (.long q2), .second, .val (.long q4), .second, .val (.long q6), .second, .val (.long vx), .second, .val (.long vy), .second, .val (.long (own_g vx vy)), .second, .unset, .unset, .unset, .unset, .unset, .unset, .unset, .unset, .unset] [(.int (1 : Int32))])) (fun t k => XS.goto X8.here hx rfl (pc0 := 100) (pc' := 104) rfl (hb hby at_100) (by decide) (by decide) k) ?_
    refine go _ (T8.setTop (mkF m 106 #[.val (.long q0), .second, .val (.long q2), .second, .val (.long q4), .second, .val (.long q6), .second, .val (.long vx), .second, .val (.long vy), .second, .val (.long (own_g vx vy)), .second, .val (.int (1 : Int32)), .unset, .unset, .unset, .unset, .unset, .unset, .unset, .unset] [])) (fun t k => XS.istore X8.here hx rfl (hb hby at_104) rfl (l' := #[.val (.long q0), .second, .val (.long q2), .second, .val (.long q4), .second, .val (.long q6), .second, .val (.long vx), .second, .val (.long vy), .second, .val (.long (own_g vx vy)), .second, .val (.int (1 : Int32)), .unset, .unset, .unset, .unset, .unset, .unset, .unset, .unset]) rfl k) ?_
    exact j106 T8 _ X8 N8 eq8
set_option maxRecDepth 65536 in
set_option maxHeartbeats 40000000 in
theorem comes_1 {Post : Tables → Env → Array Value → State → Outcome → State → Prop} (hpost : ∀ tb e args s v u, (limb_1_1.after args s (.returned v) u = true ∧ limb_1_2.after args s (.returned v) u = true ∧ True) → FrameEnd s (.returned v) u (Jvm.fieldLocs frame_1_writes args s ++ Jvm.arrayLocs frame_1_arrays args s ++ Jvm.staticLocs frame_1_statics s) 0 0 → Post tb e args s (.returned v) u) :
    ArmFor flags0 classFile x code maxLocals ret World_1 tables_1 room_1 Calls_1 rest_1 Pre_1 Post := by
  intro l hfl _ _ p e ha hc hk s m args below hf hA hF happ hP
  obtain ⟨hcalls, hrest, hpre⟩ := hP
  obtain ⟨-, -, -, hnamed, -, -, -, hat⟩ := (Spec.applies_iff hf).mp happ
  obtain ⟨hg, hn⟩ := and_e (Cond.before_iff.mp (show (Jvm.Cond.and given_1 narrow_1).before args s = true from hpre))
  obtain ⟨gg1, gg2⟩ := and_e hg
  obtain ⟨gg3, gg4⟩ := and_e gg2
  obtain ⟨gg5, gg6⟩ := and_e gg4
  obtain ⟨gg7, gg8⟩ := and_e gg6
  obtain ⟨w0, w1, w2, w3, rfl⟩ : ∃ w0 w1 w2 w3 : Value, args = #[w0, w1, w2, w3] := by
    have hs : args.size = 4 := by simpa [Cond.value, given_1] using gg1
    obtain ⟨L⟩ := args
    match L, hs with
    | [w0, w1, w2, w3], _ => exact ⟨w0, w1, w2, w3, rfl⟩
  have hw := fun d (hd : d ∈ tables_1) => atoms_spec (ws := Jvm.Cond.code x code maxLocals ret :: tables_1) hat d (List.mem_cons_of_mem _ hd)
  have hfit : Fit s := fun {y c} hc i hi => by
    obtain ⟨ha, rfl⟩ := Array.getElem?_eq_some_iff.mp hc
    have q := List.all_eq_true.mp ((Array.all_eq_true_iff_forall_mem.mp hF) _ (Array.getElem_mem ha)) i (List.mem_range.mpr hi)
    simpa [Array.getElem?_eq_getElem hi] using q
  obtain ⟨i0, ei0⟩ := isL_v gg3
  obtain rfl : w0 = (.long i0) := Option.some.inj ei0
  obtain ⟨i1, ei1⟩ := isL_v gg5
  obtain rfl : w1 = (.long i1) := Option.some.inj ei1
  obtain ⟨i2, ei2⟩ := isL_v gg7
  obtain rfl : w2 = (.long i2) := Option.some.inj ei2
  obtain ⟨i3, ei3⟩ := isL_v gg8
  obtain rfl : w3 = (.long i3) := Option.some.inj ei3
  obtain ⟨n, o, h1, h2, h3, _, L, rfl, ⟨rfl, N⟩, hq⟩ := rm0 l s _ hw tables_1 i0 i1 i2 i3 s.heap s.heap.size (Nat.le_refl _)  p e ha hc hk s m _ below hf ((Spec.applies_iff_loose hf).mp happ).1 ⟨rfl, State.Warmed39.refl s, rfl⟩ trivial
  refine ⟨n, _, h1, h2, h3, hpost _ _ _ _ _ _ ⟨Cond.after_iff.mpr rfl, Cond.after_iff.mpr (eq_i res_at (Term.int_eval (1)) rfl), trivial⟩ ⟨hq.1, hq.2.1, (hq.2.2.sift fun y hy => Or.inr (N y hy)).mono (by decide) (by decide)⟩⟩
theorem main_1_1 : Claimed_1_1 := comes_1 fun _ _ _ _ _ _ h hF => ⟨h.1, hF⟩
theorem main_1_2 : Claimed_1_2 := comes_1 fun _ _ _ _ _ _ h hF => ⟨h.2.1, hF⟩
end Jvm.Pilot.@@N@@
namespace Jvm.Pilot.@@N@@
open Jvm Jvm.ClassFile Sem Op Lib Jvm.Free Jvm.Stand Jvm.Pilot.@@N@@.Jvm.D
/-! MADE BY PROGRAM (witnessworld.py) out of the Statement's table words and the real class files: 9 classes; the members and pool entries that the words name. The judged class is class 1, her method 1. -/
namespace start1
open Jvm.ClassFile
def u (s : String) : CpInfo := .utf8 (stringToUtf16 s)
/-- a pool by its gaps: so many unusable entries, then the entry; so many at the end -/
def gap : Nat → List CpInfo → List CpInfo
  | 0, r => r
  | n + 1, r => .unusable :: gap n r
def poolList (es : List (Nat × CpInfo)) (last : Nat) : List CpInfo := es.foldr (fun e r => gap e.1 (e.2 :: r)) (gap last [])
def pool (es : List (Nat × CpInfo)) (last : Nat) : Array CpInfo := ⟨poolList es last⟩
def fileOf (pool : Array CpInfo) (this : Nat) (attrs : Array Attribute := #[]) (ms : Array MethodInfo := #[]) (fl : Nat := 33) (sup : Nat := 0) (ifs : Array Nat := #[]) (fds : Array FieldInfo := #[]) : ClassFile where
  minorVersion := 0
  majorVersion := 65
  constantPool := pool
  accessFlags := fl
  thisClass := this
  superClass := sup
  interfaces := ifs
  fields := fds
  methods := ms
  attributes := attrs
def plain (name : String) (sup : Option ClassId) : Class where
  name := name
  kind := .ordinary
  loader := none
  accessFlags := 33
  super := sup
  interfaces := #[]
  cf := none
  fields := #[]
  methods := #[]
  instanceTypes := #[]
  staticTypes := #[]
  resolved := #[]
  callSites := []
  init := .initialized
  statics := none
  mirror := none

def pool0 : Array CpInfo := pool [(5, u "<init>"), (0, u "()V"), (1, .class_ 10), (1, u "java/lang/Object")] 113

def k0m0 : Method := { name := "<init>", desc := "()V", sig := { parameters := [], returnType := none }, accessFlags := 1, code := none }
/-- java/lang/Object -/
def k0 : Class := { plain "java/lang/Object" none with
  accessFlags := 33
  interfaces := #[]
  cf := some (fileOf pool0 8 #[] #[{ accessFlags := 1, nameIndex := 5, descriptorIndex := 6, attributes := #[] }] 33 0 #[] #[])
  fields := #[]
  methods := #[k0m0]
  instanceTypes := #[]
  staticTypes := #[]
  resolved := Array.replicate 124 none
  statics := none }

def pool1 : Array CpInfo := pool [(2, .class_ 4), (1, u "java/lang/Object"), (0, u "<init>"), (0, u "()V"), (2, .long 9223372036854775807), (1, .methodref 12 13), (0, .class_ 14), (0, .nameAndType 15 16), (0, u "com/example/debbit/debbit/budgets/WholeNumbers"), (0, u "greatestCommonDivisor"), (0, u "(JJ)J"), (0, .long 2147483647), (1, .class_ 20), (0, u "com/example/debbit/debbit/budgets/WholeNumbersGreatestCommonDivisorPinLaw"), (2, u "law"), (0, u "(JJJJ)Z")] 3

def k1m0 : Method := { name := "<init>", desc := "()V", sig := { parameters := [], returnType := none }, accessFlags := 2, code := none }
def k1c1 : Code := { maxStack := 6, maxLocals := 23, code := code, exceptionTable := #[], attributes := #[] }
def k1m1 : Method := { name := "law", desc := "(JJJJ)Z", sig := { parameters := [.long, .long, .long, .long], returnType := some .boolean }, accessFlags := 9, code := some k1c1 }
/-- com/example/debbit/debbit/budgets/WholeNumbersGreatestCommonDivisorPinLaw -/
def k1 : Class := { plain "com/example/debbit/debbit/budgets/WholeNumbersGreatestCommonDivisorPinLaw" (some 0) with
  accessFlags := 49
  interfaces := #[]
  cf := some (fileOf pool1 19 #[] #[{ accessFlags := 2, nameIndex := 5, descriptorIndex := 6, attributes := #[] }, { accessFlags := 9, nameIndex := 23, descriptorIndex := 24, attributes := #[] }] 49 2 #[] #[])
  fields := #[]
  methods := #[k1m0, k1m1]
  instanceTypes := #[]
  staticTypes := #[]
  resolved := Array.replicate 28 none
  statics := none }

def pool2 : Array CpInfo := pool [(2, .class_ 4), (1, u "java/lang/Object"), (0, u "<init>"), (0, u "()V"), (0, .class_ 8), (0, u "com/example/debbit/debbit/budgets/WholeNumbers"), (2, u "greatestCommonDivisor"), (0, u "(JJ)J")] 3

def k2m0 : Method := { name := "<init>", desc := "()V", sig := { parameters := [], returnType := none }, accessFlags := 2, code := none }
def k2c1 : Code := { maxStack := 4, maxLocals := 10, code := prog_11_method_2_code, exceptionTable := #[], attributes := #[] }
def k2m1 : Method := { name := "greatestCommonDivisor", desc := "(JJ)J", sig := { parameters := [.long, .long], returnType := some .long }, accessFlags := 8, code := some k2c1 }
/-- com/example/debbit/debbit/budgets/WholeNumbers -/
def k2 : Class := { plain "com/example/debbit/debbit/budgets/WholeNumbers" (some 0) with
  accessFlags := 48
  interfaces := #[]
  cf := some (fileOf pool2 7 #[] #[{ accessFlags := 2, nameIndex := 5, descriptorIndex := 6, attributes := #[] }, { accessFlags := 8, nameIndex := 11, descriptorIndex := 12, attributes := #[] }] 48 2 #[] #[])
  fields := #[]
  methods := #[k2m0, k2m1]
  instanceTypes := #[]
  staticTypes := #[]
  resolved := Array.replicate 16 none
  statics := none }

def pool3 : Array CpInfo := pool [(1, u "java/lang/Cloneable"), (0, .class_ 1), (0, u "java/lang/Object"), (0, .class_ 3)] 3

/-- java/lang/Cloneable -/
def k3 : Class := { plain "java/lang/Cloneable" (some 0) with
  accessFlags := 1537
  interfaces := #[]
  cf := some (fileOf pool3 2 #[] #[] 1537 4 #[] #[])
  fields := #[]
  methods := #[]
  instanceTypes := #[]
  staticTypes := #[]
  resolved := Array.replicate 8 none
  statics := none }

def pool4 : Array CpInfo := pool [(1, u "java/io/Serializable"), (0, .class_ 1), (0, u "java/lang/Object"), (0, .class_ 3)] 3

/-- java/io/Serializable -/
def k4 : Class := { plain "java/io/Serializable" (some 0) with
  accessFlags := 1537
  interfaces := #[]
  cf := some (fileOf pool4 2 #[] #[] 1537 4 #[] #[])
  fields := #[]
  methods := #[]
  instanceTypes := #[]
  staticTypes := #[]
  resolved := Array.replicate 8 none
  statics := none }

/-- the primitive byte -/
def k5 : Class := { plain "byte" none with kind := .primitive 'B', accessFlags := 0x411 }
/-- [B -/
def k6 : Class := { plain "[B" (some 0) with kind := .array 5 .byte, interfaces := #[3, 4], accessFlags := 1041 }

/-- the primitive int -/
def k7 : Class := { plain "int" none with kind := .primitive 'I', accessFlags := 0x411 }
/-- [I -/
def k8 : Class := { plain "[I" (some 0) with kind := .array 7 .int, interfaces := #[3, 4], accessFlags := 1041 }

def heap : Heap := #[]
def classes : Array Class := #[k0, k1, k2, k3, k4, k5, k6, k7, k8]
def interned : List (Array UInt16 × Addr) := []
def slotsUsed : Nat := 0
def theMethod : MethodId := ⟨1, 1⟩
def args0 : Array Value := #[.long 6, .long 4, .long 3, .long 2]
def aboutOver (below : List Frame) : State where
  vm := { classes := classes, interned := interned.toArray }
  heap := heap
  slotsUsed := slotsUsed
  threads := #[{ frames := .invoking theMethod args0 :: below }]
def below0 : List Frame := [.native { method := ⟨0, 0⟩, args := #[] }]
def about1 : State := aboutOver below0
def p0 : Program := .bare "" "" ""
def e0 : Env := launch0.env 0 0 0
theorem w_frames : about1.frames = Frame.invoking theMethod args0 :: below0 := rfl
set_option maxRecDepth 65536 in
theorem w_args : argsFit about1.vm theMethod args0 = true := by decide +kernel
set_option maxRecDepth 65536 in
theorem w_heap : heapFits about1 = true := by decide +kernel
set_option maxRecDepth 65536 in
theorem w_runnable : about1.curStatus? = some .runnable := by decide +kernel
set_option maxRecDepth 65536 in
theorem w_alone : about1.alone = true := by decide +kernel
set_option maxRecDepth 65536 in
theorem w_named : about1.methodNamed? x = some theMethod := by decide +kernel
set_option maxRecDepth 65536 in
theorem w_hears : about1.hears theMethod below0 = true := by decide +kernel
set_option maxRecDepth 65536 in
theorem w_ripe : about1.ripe theMethod args0 below0 = true := by decide +kernel
theorem w_running : about1.status = .running := rfl
set_option maxRecDepth 65536 in
theorem w_room : about1.hasRoom e0.platform room_1 = true :=
  launch0.hasRoom_least _ room_1 (by decide +kernel) (by decide +kernel) (by decide +kernel) (by decide +kernel) (by decide +kernel) (by decide +kernel)
theorem allAtoms_all (ts : List Jvm.Cond) (a : Array Jvm.Value) (st : Jvm.State) : (allAtoms ts).before a st = ts.all (fun c => c.before a st) := by
  induction ts with
  | nil => rfl
  | cons c t ih =>
    show (Jvm.Cond.and c (allAtoms t)).before a st = _
    rw [Jvm.Cond.before_and, ih, List.all_cons]
def words1 : List Jvm.Cond := Jvm.Cond.code x code maxLocals ret :: tables_1
/-- a 'code' word, met by the world's own term for the bytes: nothing is compared byte by byte -/
theorem code_word {y : MethodName} {bytes : ByteArray} {mx : Nat} {rt : Option FieldType} {a : Array Value} {s : State} {m : MethodId} {meth : Method} {c : Code} (h1 : s.methodNamed? y = some m) (h2 : s.vm.method? m = some meth) (h3 : meth.code = some c) (h4 : c.code = bytes)
    (h5 : (c.maxLocals == mx && c.exceptionTable.isEmpty && decide (c.maxStack ≤ mostOperands) && decide (meth.sig.returnType = rt) && !meth.locks && decide (parseMethodDescriptor y.desc = some meth.sig)) = true) : (Jvm.Cond.code y bytes mx rt).before a s = true := by
  simp only [Bool.and_eq_true, beq_iff_eq, Bool.not_eq_true', decide_eq_true_eq] at h5
  obtain ⟨⟨⟨⟨⟨g1, g2⟩, g3⟩, g4⟩, g5⟩, g6⟩ := h5
  simp [Cond.before, Cond.holds, Cond.value, h1, h2, h3, h4, g1, g2, g3, g4, g5, g6]
def isCode : Jvm.Cond → Bool
  | .code _ _ _ _ => true
  | _ => false
theorem all_split {L : List Jvm.Cond} {P : Jvm.Cond → Bool} (h1 : L.all (fun c => isCode c || P c) = true) (h2 : ∀ c ∈ L.filter isCode, P c = true) : L.all P = true := by
  refine List.all_eq_true.mpr fun c hc => ?_
  have h := List.all_eq_true.mp h1 c hc
  rcases Bool.eq_false_or_eq_true (isCode c) with hi | hi
  · exact h2 c (List.mem_filter.mpr ⟨hc, hi⟩)
  · simpa [hi] using h
set_option maxRecDepth 65536 in
theorem w_c0 : (Jvm.Cond.code x code maxLocals ret).before args0 about1 = true := code_word (m := ⟨1, 1⟩) (meth := k1m1) (c := k1c1) (by decide +kernel) rfl rfl rfl (by decide +kernel)
set_option maxRecDepth 65536 in
theorem w_c1 : (Jvm.Cond.code ({ cls := "com/example/debbit/debbit/budgets/WholeNumbers", name := "greatestCommonDivisor", desc := "(JJ)J" } : Jvm.MethodName) prog_11_method_2_code (10 : Nat) (Option.some Jvm.ClassFile.FieldType.long)).before args0 about1 = true := code_word (m := ⟨2, 1⟩) (meth := k2m1) (c := k2c1) (by decide +kernel) rfl rfl rfl (by decide +kernel)
def codes1 : List Jvm.Cond := [Jvm.Cond.code x code maxLocals ret, Jvm.Cond.code ({ cls := "com/example/debbit/debbit/budgets/WholeNumbers", name := "greatestCommonDivisor", desc := "(JJ)J" } : Jvm.MethodName) prog_11_method_2_code (10 : Nat) (Option.some Jvm.ClassFile.FieldType.long)]
set_option maxRecDepth 65536 in
theorem codes_eq : words1.filter isCode = codes1 := rfl
theorem w_codes : ∀ c ∈ words1.filter isCode, c.before args0 about1 = true := by
  rw [codes_eq]
  intro c hc
  simp only [codes1, List.mem_cons, List.not_mem_nil, or_false] at hc
  rcases hc with rfl | rfl
  · exact w_c0
  · exact w_c1
set_option maxRecDepth 65536 in
theorem w_t1 : words1.all (fun c => isCode c || c.before args0 about1) = true := by decide +kernel
theorem w_tables : (allAtoms (Jvm.Cond.code x code maxLocals ret :: tables_1)).before args0 about1 = true := by
  rw [allAtoms_all]
  show words1.all (fun c => c.before args0 about1) = true
  refine all_split ?_ w_codes
  rw [w_t1]
set_option maxRecDepth 65536 in
theorem w_case : (Jvm.Cond.and given_1 narrow_1).before args0 about1 = true := by decide +kernel
theorem w_applies : (headSpec (Jvm.Cond.code x code maxLocals ret :: tables_1) room_1).applies x e0.platform about1 = true :=
  (Spec.applies_iff w_frames).mpr ⟨w_running, w_runnable, w_alone, w_named, w_hears, w_ripe, w_room, w_tables⟩
theorem atStart : AtStart classFile x code maxLocals ret World_1 tables_1 room_1 Calls_1 rest_1 Pre_1 launch0 p0 e0 about1 theMethod args0 below0 :=
  ⟨lists_1, trivial, launch0.admits_env _ _ _, launch0.least_env, fairChoices_fair.cas, fairChoices_fair.clock, w_frames, w_args, w_heap, w_applies, trivial, trivial, w_case⟩
end start1
theorem witness_1 : WitnessClaimed_1 := ⟨start1.p0, start1.e0, start1.about1, start1.theMethod, start1.args0, start1.below0, start1.atStart⟩
end Jvm.Pilot.@@N@@
