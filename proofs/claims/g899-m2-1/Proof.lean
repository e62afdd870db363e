import JvmDerived
import JvmDerived.Pilot.@@N@@Statement
import JvmDerived.Pilot.@@N@@Code
set_option linter.unusedVariables false
set_option linter.unusedSimpArgs false
namespace Jvm.Pilot.@@N@@
open Jvm Jvm.ClassFile Sem Op Lib Jvm.Free Jvm.Stand Jvm.LawKit Jvm.RoadKit Bundle Jvm.Pilot.@@N@@.Jvm.D
/-! my own layer: a body's walk by a predicate on states (go: one step on, fin: a return), arrays by their elements -/
theorem own_metfree {l : Launch} {x : MethodName} {ws : List Jvm.Cond} {R : Room} {code : ByteArray} {maxL : Nat} {ret : Option FieldType} {as' : Array Value} {Z : State} {h0 : Heap} {Q : Option Value → Heap → List Loc → Prop} (hpl : plainFor x = true)
    (body : ∀ (p : Program) (e : Env) (s : State) (m : MethodId) (below : List Frame) (meth : Method) (c : Code) (s₁ : State),
      Stand p l e R s m as' below meth c s₁ [] 0 0 → p.tables.exec = Jvm.exec → c.code = code → c.maxLocals = maxL → meth.sig.returnType = ret → s.vm.findClass x.cls = some m.cls → meth.name = x.name → Z.Warmed39 s.vm → s₁.heap = h0 →
      ∀ G : State → Prop, (∀ U U', (∀ t, Steps p.tables e below U' t → Steps p.tables e below U t) → G U' → G U) →
        (∀ {T : State} {locs : List Loc} {cells slots : Nat} (v : Option Value) (g : JFrame), Stand p l e R s m as' below meth c T locs cells slots → (ret = none → v = none) →
          (∀ fs, (∀ (f : JFrame) (acts : List Action), f.method = m → f.locked = none → f.entered = [] → (doReturn e (T.setTop f) acts v).1 = T.setFrames fs) → Steps p.tables e below (T.setTop g) (T.setFrames fs)) →
          Q v T.heap locs → cells ≤ R.cells → slots ≤ R.slots → G (T.setTop g)) →
        G (s₁.setTop (entryFrame m as' maxL))) :
    MetFree l x (head1 (Jvm.Cond.code x code maxL ret :: ws) R) (fun a U => a = as' ∧ Z.Warmed39 U.vm ∧ U.heap = h0) (fun _ _ _ _ _ => True) (fun _ U o U' => ∃ v L, o = .returned v ∧ Q v U'.heap L ∧ FrameEnd U o U' L R.cells R.slots) := by
  refine MetFree.of_bodySF hpl hisR ?_
  intro p e s m args below meth c s₁ Bd hml0 hP hK
  obtain ⟨rfl, hZ, hh⟩ := hP
  have X0 : Stand p l e R s m args below meth c s₁ [] 0 0 := Stand.of_body Bd
  refine body p e s m below meth c s₁ X0 Bd.exec Bd.bytes hml0 Bd.returns (findClass_of_methodNamed Bd.named) (name_of_methodNamed Bd.named Bd.method).1 hZ (by rw [← hh, Bd.state]; rfl)
    (fun U => ∃ s₂ o, Steps p.tables e below U s₂ ∧ s₂.status = .running ∧ Ended s₂ below o ∧ ∃ v L, o = .returned v ∧ Q v s₂.heap L ∧ FrameEnd s o s₂ L R.cells R.slots) ?_ ?_
  · rintro U U' h ⟨s₂, o, h1, h2⟩
    exact ⟨s₂, o, h _ h1, h2⟩
  · intro T locs cells slots v g X hv hst hq hc hs
    obtain ⟨fs, hr, hrun, hended, hW, hsame⟩ := X.leave (v := v) (by rw [Bd.returns]; exact hv)
    exact ⟨_, _, hst fs hr, hrun, hended, _, _, rfl, hq, ⟨_, rfl⟩, hW, hsame.mono hc hs⟩
theorem own_lrem {tb : Tables} [Ours tb] {e : Env} {below : List Frame} {T target : State} {m : MethodId} {c : Code} {g : JFrame} (h : At T m c below) (hx : tb.exec = Jvm.exec) (hg : g.method = m) {x y : Int64} {rest : List Value} (hd : decode c.code g.pc = .ok (.lrem, 1)) (hs : g.stack = .long y :: .long x :: rest) (hy : y ≠ 0)
    (hr : Steps tb e below (T.setTop { g with pc := g.pc + 1, stack := .long (x % y) :: rest }) target) : Steps tb e below (T.setTop g) target :=
  XS.lrem h hx hg hd hs hy (by rw [lrem_mod]; exact hr)
def own_spec5 (a b : Int64) : Int64 := if b < a then b else a
def own_m (f g k : Int) : Int := if f * 2 ^ (k - 1).toNat ≤ g then f * 2 ^ (k - 1).toNat else g
def own_I (f k vd vi : Int) : Prop := ∃ j : Nat, vi = 1 + j ∧ vd = f * 2 ^ j ∧ j ≤ (k - 1).toNat
theorem own_I0 (f : Int64) (k : Int64) : own_I f.toInt k.toInt f.toInt (1 : Int64).toInt := ⟨0, by decide, by simp, Nat.zero_le _⟩
theorem own_Is {f k vd vi g : Int64} (hI : own_I f.toInt k.toInt vd.toInt vi.toInt) (h1 : vi < k) (h2 : vd < g) (hg : g.toInt ≤ 4611686018427387904) (hf : 1 ≤ f.toInt) :
    own_I f.toInt k.toInt (vd * (2 : Int64)).toInt (vi + (1 : Int64)).toInt ∧ (vi + (1 : Int64)).toInt = vi.toInt + 1 := by
  obtain ⟨j, e1, e2, e3⟩ := hI
  rw [Int64.lt_iff_toInt_lt] at h1 h2
  have k1 : (1 : Int64).toInt = 1 := by decide
  have k2 : (2 : Int64).toInt = 2 := by decide
  have a1 := c_ladd vi (1 : Int64)
  have r1 := rng64 (vi + (1 : Int64))
  have a2 := c_lmul vd (2 : Int64)
  have r2 := rng64 (vd * (2 : Int64))
  have r3 := rng64 k
  have r4 := rng64 vd
  have hp : (0 : Int) < 2 ^ j := Int.pow_pos (by decide)
  have hv : 0 ≤ vd.toInt := by rw [e2]; exact Int.mul_nonneg (by omega) (by omega)
  rw [k2] at a2
  refine ⟨⟨j + 1, by omega, ?_, by omega⟩, by omega⟩
  have e4 : (vd * (2 : Int64)).toInt = vd.toInt * 2 := by omega
  rw [e4, e2, Int.pow_succ, Int.mul_assoc]
theorem own_Ie {f k vd vi g : Int64} (hI : own_I f.toInt k.toInt vd.toInt vi.toInt) (h : ¬ vi < k ∨ ¬ vd < g) (hf : 1 ≤ f.toInt) : own_spec5 vd g = Int64.ofInt (own_m f.toInt g.toInt k.toInt) := by
  obtain ⟨j, e1, e2, e3⟩ := hI
  have r1 := rng64 vd
  have r2 := rng64 g
  have hp : (0 : Int) < 2 ^ j := Int.pow_pos (by decide)
  have key : own_m f.toInt g.toInt k.toInt = if vd.toInt ≤ g.toInt then vd.toInt else g.toInt := by
    rw [own_m]
    by_cases q : j = (k.toInt - 1).toNat
    · rw [← q, ← e2]
    · have hge : g.toInt ≤ vd.toInt := by
        rcases h with h | h
        · rw [Int64.lt_iff_toInt_lt] at h; omega
        · rw [Int64.lt_iff_toInt_lt] at h; omega
      obtain ⟨d, hd⟩ : ∃ d, (k.toInt - 1).toNat = j + (d + 1) := ⟨(k.toInt - 1).toNat - j - 1, by omega⟩
      have hv : 1 ≤ vd.toInt := by
        rw [e2]
        have := Int.mul_le_mul (show (1 : Int) ≤ f.toInt by omega) (show (1 : Int) ≤ 2 ^ j by omega) (by omega) (by omega)
        omega
      have hbig : vd.toInt < f.toInt * 2 ^ (k.toInt - 1).toNat := by
        rw [hd, Int.pow_add, ← Int.mul_assoc, ← e2, Int.pow_succ]
        have hq : (0 : Int) < 2 ^ d := Int.pow_pos (by decide)
        have := Int.mul_le_mul_of_nonneg_left (show (2 : Int) ≤ 2 ^ d * 2 by omega) (show 0 ≤ vd.toInt by omega)
        omega
      rw [if_neg (by omega)]
      split <;> omega
  apply Int64.toInt_inj.mp
  rw [key, own_spec5]
  split
  · rename_i q
    rw [Int64.lt_iff_toInt_lt] at q
    rw [if_neg (by omega), Int64.toInt_ofInt_of_le (by omega) (by omega)]
  · rename_i q
    rw [Int64.lt_iff_toInt_lt] at q
    rw [if_pos (by omega), Int64.toInt_ofInt_of_le (by omega) (by omega)]
theorem own_l (q : Int64) : 1 ≤ ((1 : Int64) + ((q &&& (9223372036854775807 : Int64)) % (4611686018427387904 : Int64))).toInt ∧ ((1 : Int64) + ((q &&& (9223372036854775807 : Int64)) % (4611686018427387904 : Int64))).toInt ≤ 4611686018427387904 := by
  have k1 : (1 : Int64).toInt = 1 := by decide
  have h1 := c_maskL q (9223372036854775807 : Int64) 63 (by decide) (by decide)
  have h2 : ((q &&& (9223372036854775807 : Int64)) % (4611686018427387904 : Int64)).toInt = (q &&& (9223372036854775807 : Int64)).toInt % 4611686018427387904 := by
    rw [Int64.toInt_mod, Int.tmod_eq_emod_of_nonneg (by omega)]; rfl
  have h3 := c_ladd (1 : Int64) ((q &&& (9223372036854775807 : Int64)) % (4611686018427387904 : Int64))
  have h4 := rng64 ((1 : Int64) + ((q &&& (9223372036854775807 : Int64)) % (4611686018427387904 : Int64)))
  omega
theorem own_f (q l : Int64) (hl : 1 ≤ l.toInt ∧ l.toInt ≤ 4611686018427387904) : 1 ≤ ((1 : Int64) + ((q &&& (9223372036854775807 : Int64)) % l)).toInt ∧ ((1 : Int64) + ((q &&& (9223372036854775807 : Int64)) % l)).toInt ≤ l.toInt := by
  have k1 : (1 : Int64).toInt = 1 := by decide
  have h1 := c_maskL q (9223372036854775807 : Int64) 63 (by decide) (by decide)
  have h2 : ((q &&& (9223372036854775807 : Int64)) % l).toInt = (q &&& (9223372036854775807 : Int64)).toInt % l.toInt := by
    rw [Int64.toInt_mod, Int.tmod_eq_emod_of_nonneg (by omega)]
  have h5 := Int.emod_nonneg (q &&& (9223372036854775807 : Int64)).toInt (show l.toInt ≠ 0 by omega)
  have h6 := Int.emod_lt_of_pos (q &&& (9223372036854775807 : Int64)).toInt (show 0 < l.toInt by omega)
  have h3 := c_ladd (1 : Int64) ((q &&& (9223372036854775807 : Int64)) % l)
  have h4 := rng64 ((1 : Int64) + ((q &&& (9223372036854775807 : Int64)) % l))
  omega
theorem own_ne {l : Int64} (h : 1 ≤ l.toInt ∧ l.toInt ≤ 4611686018427387904) : l ≠ 0 := by
  rintro rfl
  have k0 : (0 : Int64).toInt = 0 := by decide
  omega
theorem own_s1 {k : Int64} (h : k < (1 : Int64)) : 0 ≤ (0 : Int64).toInt ∧ (0 : Int64).toInt.toNat = (k.toInt - 1).toNat := by
  have k1 : (1 : Int64).toInt = 1 := by decide
  have k0 : (0 : Int64).toInt = 0 := by decide
  rw [Int64.lt_iff_toInt_lt] at h
  omega
theorem own_s2 {k : Int64} (h : ¬ k < (1 : Int64)) : 0 ≤ (k - (1 : Int64)).toInt ∧ (k - (1 : Int64)).toInt.toNat = (k.toInt - 1).toNat := by
  have k1 : (1 : Int64).toInt = 1 := by decide
  rw [Int64.lt_iff_toInt_lt] at h
  have h1 := c_lsub k (1 : Int64)
  have h2 := rng64 k
  have h3 := rng64 (k - (1 : Int64))
  omega
section OwnEnd
variable {f g k s : Int64} (hf : 1 ≤ f.toInt ∧ f.toInt ≤ g.toInt) (hg : g.toInt ≤ 4611686018427387904) (hs : 0 ≤ s.toInt ∧ s.toInt.toNat = (k.toInt - 1).toNat)
theorem own_e1 (hf : 1 ≤ f.toInt ∧ f.toInt ≤ g.toInt) (hg : g.toInt ≤ 4611686018427387904) (hs : 0 ≤ s.toInt ∧ s.toInt.toNat = (k.toInt - 1).toNat) (h : ¬ s < (63 : Int64)) : Int64.ofInt (own_m f.toInt g.toInt k.toInt) = g := by
  have k63 : (63 : Int64).toInt = 63 := by decide
  rw [Int64.lt_iff_toInt_lt] at h
  obtain ⟨d, hd⟩ : ∃ d, (k.toInt - 1).toNat = 63 + d := ⟨(k.toInt - 1).toNat - 63, by omega⟩
  have hq : (0 : Int) < 2 ^ d := Int.pow_pos (by decide)
  have h1 : (9223372036854775808 : Int) ≤ 2 ^ (63 + d) := by
    rw [Int.pow_add]
    have := Int.mul_le_mul_of_nonneg_left (show (1 : Int) ≤ 2 ^ d by omega) (show (0 : Int) ≤ 2 ^ 63 by decide)
    have e : (2 : Int) ^ 63 = 9223372036854775808 := by decide
    omega
  have h2 : (9223372036854775808 : Int) ≤ f.toInt * 2 ^ (63 + d) := by
    have := Int.mul_le_mul hf.1 h1 (by decide) (by omega)
    omega
  rw [own_m, hd, if_neg (by omega)]
  exact Int64.ofInt_toInt g
theorem own_sh (s : Int64) (h0 : 0 ≤ s.toInt) (h1 : s.toInt < 63) : s.toInt32.toBitVec.toNat % 64 = s.toInt.toNat := by
  have h2 : s.toInt32.toInt = s.toInt := by
    have := c_l2i s
    have := rng32 s.toInt32
    omega
  have h3 : s.toInt32 = Int32.ofNat s.toInt.toNat := by
    apply Int32.toInt_inj.mp
    rw [Int32.toInt_ofNat_of_lt (by omega), h2]; omega
  rw [h3]
  have := (show ∀ k : Fin 64, (Int32.ofNat k.1).toBitVec.toNat % 64 = k.1 by decide +kernel) ⟨s.toInt.toNat, by omega⟩
  exact this
theorem own_e2 (hf : 1 ≤ f.toInt ∧ f.toInt ≤ g.toInt) (hg : g.toInt ≤ 4611686018427387904) (hs : 0 ≤ s.toInt ∧ s.toInt.toNat = (k.toInt - 1).toNat) (h : s < (63 : Int64)) (h2 : (g >>> (s.toInt32 &&& 0x3f).toInt64) < f) : Int64.ofInt (own_m f.toInt g.toInt k.toInt) = g := by
  have k63 : (63 : Int64).toInt = 63 := by decide
  rw [Int64.lt_iff_toInt_lt, k63] at h
  rw [Int64.lt_iff_toInt_lt, c_lshr g s.toInt32 _ (own_sh s hs.1 h), hs.2] at h2
  have hq : (0 : Int) < ((2 ^ (k.toInt - 1).toNat : Nat) : Int) := by simp [Int.pow_pos]
  have h3 : ¬ f.toInt * 2 ^ (k.toInt - 1).toNat ≤ g.toInt := fun q => by
    have := (Int.le_ediv_iff_mul_le hq).mpr (show f.toInt * ((2 ^ (k.toInt - 1).toNat : Nat) : Int) ≤ g.toInt by simpa using q)
    omega
  rw [own_m, if_neg h3]
  exact Int64.ofInt_toInt g
theorem own_e3 (hf : 1 ≤ f.toInt ∧ f.toInt ≤ g.toInt) (hg : g.toInt ≤ 4611686018427387904) (hs : 0 ≤ s.toInt ∧ s.toInt.toNat = (k.toInt - 1).toNat) (h : s < (63 : Int64)) (h2 : ¬ (g >>> (s.toInt32 &&& 0x3f).toInt64) < f) : Int64.ofInt (own_m f.toInt g.toInt k.toInt) = (f <<< (s.toInt32 &&& 0x3f).toInt64) := by
  have k63 : (63 : Int64).toInt = 63 := by decide
  rw [Int64.lt_iff_toInt_lt, k63] at h
  rw [Int64.lt_iff_toInt_lt, c_lshr g s.toInt32 _ (own_sh s hs.1 h), hs.2] at h2
  have hq : (0 : Int) < ((2 ^ (k.toInt - 1).toNat : Nat) : Int) := by simp [Int.pow_pos]
  have h3 : f.toInt * ((2 ^ (k.toInt - 1).toNat : Nat) : Int) ≤ g.toInt := (Int.le_ediv_iff_mul_le hq).mp (by omega)
  have h4 := c_lshl f s.toInt32 _ (own_sh s hs.1 h)
  rw [hs.2] at h4
  have h5 := rng64 (f <<< (s.toInt32 &&& 0x3f).toInt64)
  have h6 : 0 ≤ f.toInt * ((2 ^ (k.toInt - 1).toNat : Nat) : Int) := Int.mul_nonneg (by omega) (by omega)
  have e : f.toInt * 2 ^ (k.toInt - 1).toNat = f.toInt * ((2 ^ (k.toInt - 1).toNat : Nat) : Int) := by simp
  apply Int64.toInt_inj.mp
  rw [own_m, e, if_pos h3, Int64.toInt_ofInt_of_le (by omega) (by omega)]
  omega
end OwnEnd

theorem own_ef2 (m : MethodId) (o0 : Addr) : entryFrame m #[(.ref o0)] 1 = mkF m 0 #[.val (.ref o0)] [] := by first | (simp [entryFrame, mkF, argsToLocals, Value.category]; done) | rfl
theorem own_pn2 : plainName "java/lang/Record" = true := by first | (simp [plainName, overriddenIn]; done) | decide +kernel
theorem d2_0 : decode jdk_30_method_1_code 0 = .ok (.aload_n 0, 1) := by decide +kernel
theorem d2_1 : decode jdk_30_method_1_code 1 = .ok (.invokespecial 1, 3) := by decide +kernel
theorem d2_4 : decode jdk_30_method_1_code 4 = .ok (.return_, 1) := by decide +kernel
def own_Q2 (Z : State) (o0 : Addr) (h0 : Heap) (n0 : Nat) (v : Option Value) (h : Heap) (L : List Loc) : Prop := v = none ∧ Fr n0 L ∧ h = h0
set_option maxRecDepth 65536 in
set_option maxHeartbeats 40000000 in
theorem rm2 (l : Launch) (Z : State) (a0 : Array Value) (hw : ∀ d ∈ tables_1, d.before a0 Z = true) (ws : List Jvm.Cond) (o0 : Addr) (h0 : Heap) (n0 : Nat) (Z0 : n0 ≤ h0.size) :
    MetFree l (⟨"java/lang/Record", "<init>", "()V"⟩ : MethodName) (head1 (Jvm.Cond.code (⟨"java/lang/Record", "<init>", "()V"⟩ : MethodName) jdk_30_method_1_code 1 none :: ws) ({ frames := 1, cells := 0, slots := 0, locals := 12 } : Room)) (fun a U => a = #[(.ref o0)] ∧ Z.Warmed39 U.vm ∧ U.heap = h0) (fun _ _ _ _ _ => True) (fun _ U o U' => ∃ v L, o = .returned v ∧ own_Q2 Z o0 h0 n0 v U'.heap L ∧ FrameEnd U o U' L ({ frames := 1, cells := 0, slots := 0, locals := 12 } : Room).cells ({ frames := 1, cells := 0, slots := 0, locals := 12 } : Room).slots) := by
  refine own_metfree (Q := own_Q2 Z o0 h0 n0) (plainFor_of_name own_pn2) ?_
  intro p e s m below meth c s₁ X0 hx hby hml hret hown hnm hZ e0 G go fin
  have N0 := Fr.nil n0
  refine go _ (s₁.setTop (mkF m 0 #[.val (.ref o0)] [])) (fun t k => castTop (own_ef2 m o0) k) ?_
  refine go _ (s₁.setTop (mkF m 1 #[.val (.ref o0)] [(.ref o0)])) (fun t k => XS.aloadN X0.here hx rfl (hb hby d2_0) rfl rfl k) ?_
  obtain ⟨T1, X1, e1, st1⟩ := initO X0 hx hZ hown (hw _ (List.mem_of_getElem? (i := 13) rfl)) (hw _ (List.mem_of_getElem? (i := 14) rfl)) (hw _ (List.mem_of_getElem? (i := 15) rfl)) e0 (g := (mkF m 1 #[.val (.ref o0)] [(.ref o0)])) rfl (by rw [hml]; rfl) rfl (hb hby d2_1) (by decide) (W := 0) (by show 2 * 0 + _ ≤ _; exact Nat.le_of_eq rfl) (by decide)
  refine go _ (T1.setTop (mkF m 4 #[.val (.ref o0)] [])) st1 ?_
  refine fin (none) (mkF m 4 #[.val (.ref o0)] []) X1 (fun _ => rfl) (fun fs hr => X1.returnOut hx hret (hb hby d2_4) hr) ?_ (by decide) (by decide)
  try rw [e1]
  exact ⟨rfl, N0, rfl⟩
theorem own_ef1 (m : MethodId) (o0 : Addr) (q1 : Int64) (q2 : Int64) : entryFrame m #[(.ref o0), (.long q1), (.long q2)] 5 = mkF m 0 #[.val (.ref o0), .val (.long q1), .second, .val (.long q2), .second] [] := by first | (simp [entryFrame, mkF, argsToLocals, Value.category]; done) | rfl
theorem own_pn1 : plainName "com/example/postledger/postledger/Backoff" = true := by first | (simp [plainName, overriddenIn]; done) | decide +kernel
theorem d1_0 : decode prog_1_method_1_code 0 = .ok (.aload_n 0, 1) := by decide +kernel
theorem d1_1 : decode prog_1_method_1_code 1 = .ok (.invokespecial 1, 3) := by decide +kernel
theorem own_pd_0 : parseMethodDescriptor "()V" = some ⟨[], none⟩ := by decide +kernel
theorem d1_4 : decode prog_1_method_1_code 4 = .ok (.aload_n 0, 1) := by decide +kernel
theorem d1_5 : decode prog_1_method_1_code 5 = .ok (.lload_n 1, 1) := by decide +kernel
theorem d1_6 : decode prog_1_method_1_code 6 = .ok (.putfield 7, 3) := by decide +kernel
theorem d1_9 : decode prog_1_method_1_code 9 = .ok (.aload_n 0, 1) := by decide +kernel
theorem d1_10 : decode prog_1_method_1_code 10 = .ok (.lload_n 3, 1) := by decide +kernel
theorem d1_11 : decode prog_1_method_1_code 11 = .ok (.putfield 13, 3) := by decide +kernel
theorem d1_14 : decode prog_1_method_1_code 14 = .ok (.return_, 1) := by decide +kernel
def own_Q1 (Z : State) (o0 : Addr) (q1 : Int64) (q2 : Int64) (h0 : Heap) (n0 : Nat) (v : Option Value) (h : Heap) (L : List Loc) : Prop := v = none ∧ Fr n0 L ∧ Keep h0 h [o0] ∧ Exa Z h o0 "com/example/postledger/postledger/Backoff" ∧ Fld Z h o0 "com/example/postledger/postledger/Backoff" "first" "J" (.long q1) ∧ Fld Z h o0 "com/example/postledger/postledger/Backoff" "longest" "J" (.long q2)
set_option maxRecDepth 65536 in
set_option maxHeartbeats 40000000 in
theorem rm1 (l : Launch) (Z : State) (a0 : Array Value) (hw : ∀ d ∈ tables_1, d.before a0 Z = true) (ws : List Jvm.Cond) (o0 : Addr) (q1 : Int64) (q2 : Int64) (h0 : Heap) (n0 : Nat) (Z0 : n0 ≤ h0.size) (P0 : Fld Z h0 o0 "com/example/postledger/postledger/Backoff" "first" "J" (.long (0 : Int64))) (P1 : Fld Z h0 o0 "com/example/postledger/postledger/Backoff" "longest" "J" (.long (0 : Int64))) (PE : Exa Z h0 o0 "com/example/postledger/postledger/Backoff") (Pg : n0 ≤ o0) :
    MetFree l (⟨"com/example/postledger/postledger/Backoff", "<init>", "(JJ)V"⟩ : MethodName) (head1 (Jvm.Cond.code (⟨"com/example/postledger/postledger/Backoff", "<init>", "(JJ)V"⟩ : MethodName) prog_1_method_1_code 5 none :: ws) ({ frames := 2, cells := 0, slots := 0, locals := 24 } : Room)) (fun a U => a = #[(.ref o0), (.long q1), (.long q2)] ∧ Z.Warmed39 U.vm ∧ U.heap = h0) (fun _ _ _ _ _ => True) (fun _ U o U' => ∃ v L, o = .returned v ∧ own_Q1 Z o0 q1 q2 h0 n0 v U'.heap L ∧ FrameEnd U o U' L ({ frames := 2, cells := 0, slots := 0, locals := 24 } : Room).cells ({ frames := 2, cells := 0, slots := 0, locals := 24 } : Room).slots) := by
  refine own_metfree (Q := own_Q1 Z o0 q1 q2 h0 n0) (plainFor_of_name own_pn1) ?_
  intro p e s m below meth c s₁ X0 hx hby hml hret hown hnm hZ e0 G go fin
  have N0 := Fr.nil n0
  refine go _ (s₁.setTop (mkF m 0 #[.val (.ref o0), .val (.long q1), .second, .val (.long q2), .second] [])) (fun t k => castTop (own_ef1 m o0 q1 q2) k) ?_
  refine go _ (s₁.setTop (mkF m 1 #[.val (.ref o0), .val (.long q1), .second, .val (.long q2), .second] [(.ref o0)])) (fun t k => XS.aloadN X0.here hx rfl (hb hby d1_0) rfl rfl k) ?_
  obtain ⟨_, _, ⟨T1, L1, k1, n1⟩, -, X1, ⟨Lc1, hQ1, l1, y1, z1⟩, st1⟩ := X0.specialBack hx (y := (⟨"java/lang/Record", "<init>", "()V"⟩ : MethodName)) rfl hown (mvT hZ (hw _ (List.mem_of_getElem? (i := 8) rfl))) (mvT hZ (hw _ (List.mem_of_getElem? (i := 9) rfl))) (mvT hZ (hw _ (List.mem_of_getElem? (i := 12) rfl))) (by decide) (backOf (W := 0) (rm2 l Z a0 hw [] o0 h0 n0 Z0) hZ (hw _ (List.mem_of_getElem? (i := 12) rfl)) (hw _ (List.mem_of_getElem? (i := 11) rfl)) (by decide) (by decide)) (g := (mkF m 1 #[.val (.ref o0), .val (.long q1), .second, .val (.long q2), .second] [(.ref o0)])) rfl (by rw [hml]; rfl) (Steps.refl _) (a := o0) (argsL := []) (rest := []) (lenOf own_pd_0 rfl) rfl (by show 2 * 0 + _ ≤ _; exact Nat.le_of_eq rfl) (hb hby d1_1) (fun _ _ => ⟨rfl, e0, (by decide : 0 + 0 ≤ _), (by decide : 0 + 0 ≤ _)⟩)
  dsimp only [Pt.U, Pt.locs, Pt.cells, Pt.slots] at X1 l1 y1 z1 st1 hQ1
  subst l1 y1 z1
  obtain ⟨rfl, Nq1, eq1⟩ := hQ1
  have N1 := Fr.app N0 Nq1
  refine go _ (T1.setTop (mkF m 4 #[.val (.ref o0), .val (.long q1), .second, .val (.long q2), .second] [])) (fun t k => st1.trans k) ?_
  refine go _ (T1.setTop (mkF m 5 #[.val (.ref o0), .val (.long q1), .second, .val (.long q2), .second] [(.ref o0)])) (fun t k => XS.aloadN X1.here hx rfl (hb hby d1_4) rfl rfl k) ?_
  refine go _ (T1.setTop (mkF m 6 #[.val (.ref o0), .val (.long q1), .second, .val (.long q2), .second] [(.long q1), (.ref o0)])) (fun t k => XS.lloadN X1.here hx rfl (hb hby d1_5) rfl k) ?_
  obtain ⟨T2, h2, X2, e2, W2, st2⟩ := putF X1 hx hZ hown (host := "") (Or.inl (hw _ (List.mem_of_getElem? (i := 16) rfl))) Via.refl eq1 P0 PE (Or.inr ⟨(hw _ (List.mem_of_getElem? (i := 17) rfl)), rfl, hnm⟩) (hw _ (List.mem_of_getElem? (i := 3) rfl)) (ty := .long) (by decide) rfl rfl (g := (mkF m 6 #[.val (.ref o0), .val (.long q1), .second, .val (.long q2), .second] [(.long q1), (.ref o0)])) rfl rfl (hb hby d1_6)
  have Fw2 : Fld Z h2 o0 "com/example/postledger/postledger/Backoff" "first" "J" (.long q1) := P0.same W2
  have N2 := Fr.snoc X2 N1 Pg
  refine go _ (T2.setTop (mkF m 9 #[.val (.ref o0), .val (.long q1), .second, .val (.long q2), .second] [])) st2 ?_
  refine go _ (T2.setTop (mkF m 10 #[.val (.ref o0), .val (.long q1), .second, .val (.long q2), .second] [(.ref o0)])) (fun t k => XS.aloadN X2.here hx rfl (hb hby d1_9) rfl rfl k) ?_
  refine go _ (T2.setTop (mkF m 11 #[.val (.ref o0), .val (.long q1), .second, .val (.long q2), .second] [(.long q2), (.ref o0)])) (fun t k => XS.lloadN X2.here hx rfl (hb hby d1_10) rfl k) ?_
  have F3_longest_o0 : Fld Z h2 o0 "com/example/postledger/postledger/Backoff" "longest" "J" (.long (0 : Int64)) := (P1.other W2 (Or.inr (slot_ne (Or.inr (hw _ (List.mem_of_getElem? (i := 19) rfl))) (Or.inr (hw _ (List.mem_of_getElem? (i := 17) rfl))) (by decide) (t := .long) (t' := .long) (by decide) (by decide))))
  have E4_o0 : Exa Z h2 o0 "com/example/postledger/postledger/Backoff" := (PE.wr W2)
  obtain ⟨T5, h5, X5, e5, W5, st5⟩ := putF X2 hx hZ hown (host := "") (Or.inl (hw _ (List.mem_of_getElem? (i := 18) rfl))) Via.refl e2 F3_longest_o0 E4_o0 (Or.inr ⟨(hw _ (List.mem_of_getElem? (i := 19) rfl)), rfl, hnm⟩) (hw _ (List.mem_of_getElem? (i := 3) rfl)) (ty := .long) (by decide) rfl rfl (g := (mkF m 11 #[.val (.ref o0), .val (.long q1), .second, .val (.long q2), .second] [(.long q2), (.ref o0)])) rfl rfl (hb hby d1_11)
  have Fw5 : Fld Z h5 o0 "com/example/postledger/postledger/Backoff" "longest" "J" (.long q2) := F3_longest_o0.same W5
  have N5 := Fr.snoc X5 N2 Pg
  refine go _ (T5.setTop (mkF m 14 #[.val (.ref o0), .val (.long q1), .second, .val (.long q2), .second] [])) st5 ?_
  have E6_o0 : Exa Z h5 o0 "com/example/postledger/postledger/Backoff" := (E4_o0.wr W5)
  have F7_first_o0 : Fld Z h5 o0 "com/example/postledger/postledger/Backoff" "first" "J" (.long q1) := (Fw2.other W5 (Or.inr (slot_ne (Or.inr (hw _ (List.mem_of_getElem? (i := 17) rfl))) (Or.inr (hw _ (List.mem_of_getElem? (i := 19) rfl))) (by decide) (t := .long) (t' := .long) (by decide) (by decide))))
  refine fin (none) (mkF m 14 #[.val (.ref o0), .val (.long q1), .second, .val (.long q2), .second] []) X5 (fun _ => rfl) (fun fs hr => X5.returnOut hx hret (hb hby d1_14) hr) ?_ (by decide) (by decide)
  try rw [e5]
  exact ⟨rfl, N5, (((Keep.refl h0 [o0]).wr W2 (Or.inl (List.mem_of_getElem? (i := 0) rfl))).wr W5 (Or.inl (List.mem_of_getElem? (i := 0) rfl))), E6_o0, F7_first_o0, Fw5⟩
theorem own_ef5 (m : MethodId) (q0 : Int64) (q1 : Int64) : entryFrame m #[(.long q0), (.long q1)] 4 = mkF m 0 #[.val (.long q0), .second, .val (.long q1), .second] [] := by first | (simp [entryFrame, mkF, argsToLocals, Value.category]; done) | rfl
theorem d5_0 : decode jdk_29_method_70_code 0 = .ok (.lload_n 0, 1) := by decide +kernel
theorem d5_1 : decode jdk_29_method_70_code 1 = .ok (.lload_n 2, 1) := by decide +kernel
theorem d5_2 : decode jdk_29_method_70_code 2 = .ok (.lcmp, 1) := by decide +kernel
theorem d5_3 : decode jdk_29_method_70_code 3 = .ok (.ifCond .gt 7, 3) := by decide +kernel
theorem d5_10 : decode jdk_29_method_70_code 10 = .ok (.lload_n 2, 1) := by decide +kernel
theorem d5_11 : decode jdk_29_method_70_code 11 = .ok (.lreturn, 1) := by decide +kernel
theorem d5_6 : decode jdk_29_method_70_code 6 = .ok (.lload_n 0, 1) := by decide +kernel
theorem d5_7 : decode jdk_29_method_70_code 7 = .ok (.goto 4, 3) := by decide +kernel
def own_Q5 (Z : State) (q0 : Int64) (q1 : Int64) (h0 : Heap) (n0 : Nat) (v : Option Value) (h : Heap) (L : List Loc) : Prop := v = some (.long (own_spec5 q0 q1)) ∧ Fr n0 L ∧ h = h0
set_option maxRecDepth 65536 in
set_option maxHeartbeats 40000000 in
theorem rm5 (l : Launch) (Z : State) (a0 : Array Value) (hw : ∀ d ∈ tables_1, d.before a0 Z = true) (ws : List Jvm.Cond) (q0 : Int64) (q1 : Int64) (h0 : Heap) (n0 : Nat) (Z0 : n0 ≤ h0.size) :
    MetFree l (⟨"java/lang/Math", "min", "(JJ)J"⟩ : MethodName) (head1 (Jvm.Cond.code (⟨"java/lang/Math", "min", "(JJ)J"⟩ : MethodName) jdk_29_method_70_code 4 (some .long) :: ws) ({ frames := 0, cells := 0, slots := 0, locals := 0 } : Room)) (fun a U => a = #[(.long q0), (.long q1)] ∧ Z.Warmed39 U.vm ∧ U.heap = h0) (fun _ _ _ _ _ => True) (fun _ U o U' => ∃ v L, o = .returned v ∧ own_Q5 Z q0 q1 h0 n0 v U'.heap L ∧ FrameEnd U o U' L ({ frames := 0, cells := 0, slots := 0, locals := 0 } : Room).cells ({ frames := 0, cells := 0, slots := 0, locals := 0 } : Room).slots) := by
  refine own_metfree (Q := own_Q5 Z q0 q1 h0 n0) (Jvm.Free.JP.mathPlain rfl (by decide +kernel)) ?_
  intro p e s m below meth c s₁ X0 hx hby hml hret hown hnm hZ e0 G go fin
  have N0 := Fr.nil n0
  refine go _ (s₁.setTop (mkF m 0 #[.val (.long q0), .second, .val (.long q1), .second] [])) (fun t k => castTop (own_ef5 m q0 q1) k) ?_
  refine go _ (s₁.setTop (mkF m 1 #[.val (.long q0), .second, .val (.long q1), .second] [(.long q0)])) (fun t k => XS.lloadN X0.here hx rfl (hb hby d5_0) rfl k) ?_
  refine go _ (s₁.setTop (mkF m 2 #[.val (.long q0), .second, .val (.long q1), .second] [(.long q1), (.long q0)])) (fun t k => XS.lloadN X0.here hx rfl (hb hby d5_1) rfl k) ?_
  refine go _ (s₁.setTop (mkF m 3 #[.val (.long q0), .second, .val (.long q1), .second] [(.int (lcmpW q0 q1))])) (fun t k => XS.lcmp X0.here hx rfl (hb hby d5_2) rfl k) ?_
  rcases Decidable.em (q1 < q0) with hc3 | hc3
  · refine go _ (s₁.setTop (mkF m 10 #[.val (.long q0), .second, .val (.long q1), .second] [])) (fun t k => XS.ifYes X0.here hx rfl (pc0 := 3) (pc' := 10) rfl (hb hby d5_3) rfl ((if0 _ _).trans (tlt ((lw_gt _ _).mpr hc3)).2.2.1) (by decide) (by decide) k) ?_
    refine go _ (s₁.setTop (mkF m 11 #[.val (.long q0), .second, .val (.long q1), .second] [(.long q1)])) (fun t k => XS.lloadN X0.here hx rfl (hb hby d5_10) rfl k) ?_
    refine fin (some (.long q1)) (mkF m 11 #[.val (.long q0), .second, .val (.long q1), .second] [(.long q1)]) X0 (fun h => by cases h) (fun fs hr => retOut X0 hx (t := .long) hret rfl (Or.inr (Or.inl ⟨rfl, rfl, _, rfl⟩)) (hb hby d5_11) hr) ?_ (by decide) (by decide)
    try rw [e0]
    exact ⟨by rw [own_spec5, if_pos hc3], N0, rfl⟩
  · refine go _ (s₁.setTop (mkF m 6 #[.val (.long q0), .second, .val (.long q1), .second] [])) (fun t k => XS.ifNo X0.here hx rfl (hb hby d5_3) rfl ((if0 _ _).trans (flt (fun q => hc3 ((lw_gt _ _).mp q))).2.2.1) k) ?_
    refine go _ (s₁.setTop (mkF m 7 #[.val (.long q0), .second, .val (.long q1), .second] [(.long q0)])) (fun t k => XS.lloadN X0.here hx rfl (hb hby d5_6) rfl k) ?_
    refine go _ (s₁.setTop (mkF m 11 #[.val (.long q0), .second, .val (.long q1), .second] [(.long q0)])) (fun t k => XS.goto X0.here hx rfl (pc0 := 7) (pc' := 11) rfl (hb hby d5_7) (by decide) (by decide) k) ?_
    refine fin (some (.long q0)) (mkF m 11 #[.val (.long q0), .second, .val (.long q1), .second] [(.long q0)]) X0 (fun h => by cases h) (fun fs hr => retOut X0 hx (t := .long) hret rfl (Or.inr (Or.inl ⟨rfl, rfl, _, rfl⟩)) (hb hby d5_11) hr) ?_ (by decide) (by decide)
    try rw [e0]
    exact ⟨by rw [own_spec5, if_neg hc3], N0, rfl⟩
theorem own_ef4 (m : MethodId) (o0 : Addr) (q1 : Int64) : entryFrame m #[(.ref o0), (.long q1)] 7 = mkF m 0 #[.val (.ref o0), .val (.long q1), .second, .unset, .unset, .unset, .unset] [] := by first | (simp [entryFrame, mkF, argsToLocals, Value.category]; done) | rfl
theorem own_pn4 : plainName "com/example/postledger/postledger/Backoff" = true := by first | (simp [plainName, overriddenIn]; done) | decide +kernel
theorem d4_0 : decode prog_1_method_2_code 0 = .ok (.aload_n 0, 1) := by decide +kernel
theorem d4_1 : decode prog_1_method_2_code 1 = .ok (.getfield 7, 3) := by decide +kernel
theorem d4_4 : decode prog_1_method_2_code 4 = .ok (.lstore_n 3, 1) := by decide +kernel
theorem d4_5 : decode prog_1_method_2_code 5 = .ok (.lconst 1, 1) := by decide +kernel
theorem d4_6 : decode prog_1_method_2_code 6 = .ok (.lstore 5, 2) := by decide +kernel
theorem d4_8 : decode prog_1_method_2_code 8 = .ok (.lload 5, 2) := by decide +kernel
theorem d4_10 : decode prog_1_method_2_code 10 = .ok (.lload_n 1, 1) := by decide +kernel
theorem d4_11 : decode prog_1_method_2_code 11 = .ok (.lcmp, 1) := by decide +kernel
theorem d4_12 : decode prog_1_method_2_code 12 = .ok (.ifCond .ge 27, 3) := by decide +kernel
theorem d4_15 : decode prog_1_method_2_code 15 = .ok (.lload_n 3, 1) := by decide +kernel
theorem d4_16 : decode prog_1_method_2_code 16 = .ok (.aload_n 0, 1) := by decide +kernel
theorem d4_17 : decode prog_1_method_2_code 17 = .ok (.getfield 13, 3) := by decide +kernel
theorem d4_20 : decode prog_1_method_2_code 20 = .ok (.lcmp, 1) := by decide +kernel
theorem d4_21 : decode prog_1_method_2_code 21 = .ok (.ifCond .ge 18, 3) := by decide +kernel
theorem d4_24 : decode prog_1_method_2_code 24 = .ok (.lload_n 3, 1) := by decide +kernel
theorem d4_25 : decode prog_1_method_2_code 25 = .ok (.ldc2_w 16, 3) := by decide +kernel
theorem d4_28 : decode prog_1_method_2_code 28 = .ok (.lmul, 1) := by decide +kernel
theorem d4_29 : decode prog_1_method_2_code 29 = .ok (.lstore_n 3, 1) := by decide +kernel
theorem d4_30 : decode prog_1_method_2_code 30 = .ok (.lload 5, 2) := by decide +kernel
theorem d4_32 : decode prog_1_method_2_code 32 = .ok (.lconst 1, 1) := by decide +kernel
theorem d4_33 : decode prog_1_method_2_code 33 = .ok (.ladd, 1) := by decide +kernel
theorem d4_34 : decode prog_1_method_2_code 34 = .ok (.lstore 5, 2) := by decide +kernel
theorem d4_36 : decode prog_1_method_2_code 36 = .ok (.goto (-28), 3) := by decide +kernel
theorem d4_39 : decode prog_1_method_2_code 39 = .ok (.lload_n 3, 1) := by decide +kernel
theorem d4_40 : decode prog_1_method_2_code 40 = .ok (.aload_n 0, 1) := by decide +kernel
theorem d4_41 : decode prog_1_method_2_code 41 = .ok (.getfield 13, 3) := by decide +kernel
theorem d4_44 : decode prog_1_method_2_code 44 = .ok (.invokestatic 18, 3) := by decide +kernel
theorem own_pd_1 : parseMethodDescriptor "(JJ)J" = some ⟨[.long, .long], some .long⟩ := by decide +kernel
theorem d4_47 : decode prog_1_method_2_code 47 = .ok (.lreturn, 1) := by decide +kernel
def own_Q4 (Z : State) (o0 : Addr) (q1 : Int64) (vf : Int64) (vl : Int64) (h0 : Heap) (n0 : Nat) (v : Option Value) (h : Heap) (L : List Loc) : Prop := v = some (.long (Int64.ofInt (own_m vf.toInt vl.toInt q1.toInt))) ∧ Fr n0 L ∧ h = h0
set_option maxRecDepth 65536 in
set_option maxHeartbeats 40000000 in
theorem rm4 (l : Launch) (Z : State) (a0 : Array Value) (hw : ∀ d ∈ tables_1, d.before a0 Z = true) (ws : List Jvm.Cond) (o0 : Addr) (q1 : Int64) (vf : Int64) (vl : Int64) (h0 : Heap) (n0 : Nat) (Z0 : n0 ≤ h0.size) (P0 : Fld Z h0 o0 "com/example/postledger/postledger/Backoff" "first" "J" (.long vf)) (P1 : Fld Z h0 o0 "com/example/postledger/postledger/Backoff" "longest" "J" (.long vl)) (hf : 1 ≤ vf.toInt) (hg : vl.toInt ≤ 4611686018427387904) :
    MetFree l (⟨"com/example/postledger/postledger/Backoff", "nth", "(J)J"⟩ : MethodName) (head1 (Jvm.Cond.code (⟨"com/example/postledger/postledger/Backoff", "nth", "(J)J"⟩ : MethodName) prog_1_method_2_code 7 (some .long) :: ws) ({ frames := 1, cells := 0, slots := 0, locals := 15 } : Room)) (fun a U => a = #[(.ref o0), (.long q1)] ∧ Z.Warmed39 U.vm ∧ U.heap = h0) (fun _ _ _ _ _ => True) (fun _ U o U' => ∃ v L, o = .returned v ∧ own_Q4 Z o0 q1 vf vl h0 n0 v U'.heap L ∧ FrameEnd U o U' L ({ frames := 1, cells := 0, slots := 0, locals := 15 } : Room).cells ({ frames := 1, cells := 0, slots := 0, locals := 15 } : Room).slots) := by
  refine own_metfree (Q := own_Q4 Z o0 q1 vf vl h0 n0) (plainFor_of_name own_pn4) ?_
  intro p e s m below meth c s₁ X0 hx hby hml hret hown hnm hZ e0 G go fin
  have N0 := Fr.nil n0
  refine go _ (s₁.setTop (mkF m 0 #[.val (.ref o0), .val (.long q1), .second, .unset, .unset, .unset, .unset] [])) (fun t k => castTop (own_ef4 m o0 q1) k) ?_
  refine go _ (s₁.setTop (mkF m 1 #[.val (.ref o0), .val (.long q1), .second, .unset, .unset, .unset, .unset] [(.ref o0)])) (fun t k => XS.aloadN X0.here hx rfl (hb hby d4_0) rfl rfl k) ?_
  obtain ⟨T1, X1, e1, st1⟩ := getF X0 hx hZ hown (host := "") (Or.inl (hw _ (List.mem_of_getElem? (i := 16) rfl))) Via.refl e0 P0 (g := (mkF m 1 #[.val (.ref o0), .val (.long q1), .second, .unset, .unset, .unset, .unset] [(.ref o0)])) rfl rfl (hb hby d4_1)
  refine go _ (T1.setTop (mkF m 4 #[.val (.ref o0), .val (.long q1), .second, .unset, .unset, .unset, .unset] [(.long vf)])) st1 ?_
  refine go _ (T1.setTop (mkF m 5 #[.val (.ref o0), .val (.long q1), .second, .val (.long vf), .second, .unset, .unset] [])) (fun t k => XS.lstoreN X1.here hx rfl (hb hby d4_4) rfl (l' := #[.val (.ref o0), .val (.long q1), .second, .val (.long vf), .second, .unset, .unset]) rfl k) ?_
  refine go _ (T1.setTop (mkF m 6 #[.val (.ref o0), .val (.long q1), .second, .val (.long vf), .second, .unset, .unset] [(.long (1 : Int64))])) (fun t k => XS.lconst X1.here hx rfl (hb hby d4_5) k) ?_
  refine go _ (T1.setTop (mkF m 8 #[.val (.ref o0), .val (.long q1), .second, .val (.long vf), .second, .val (.long (1 : Int64)), .second] [])) (fun t k => XS.lstore X1.here hx rfl (hb hby d4_6) rfl (l' := #[.val (.ref o0), .val (.long q1), .second, .val (.long vf), .second, .val (.long (1 : Int64)), .second]) rfl k) ?_
  have lp : ∀ (klp : Nat) (Tlp : State) (Llp : List Loc) (Xlp : Stand p l e ({ frames := 1, cells := 0, slots := 0, locals := 15 } : Room) s m #[(.ref o0), (.long q1)] below meth c Tlp Llp 0 0) (Nlp : Fr n0 Llp) (elp : Tlp.heap = h0) (vd : Int64) (vi : Int64) (hmlp : (q1.toInt - vi.toInt).toNat < klp) (hI : own_I vf.toInt q1.toInt vd.toInt vi.toInt), G (Tlp.setTop (mkF m 8 #[.val (.ref o0), .val (.long q1), .second, .val (.long vd), .second, .val (.long vi), .second] [])) := by
    intro klp
    induction klp with
    | zero => intro Tlp Llp Xlp Nlp elp vd vi hmlp hI; exact absurd hmlp (Nat.not_lt_zero _)
    | succ klp ihlp =>
      intro Tlp Llp Xlp Nlp elp vd vi hmlp hI
      refine go _ (Tlp.setTop (mkF m 10 #[.val (.ref o0), .val (.long q1), .second, .val (.long vd), .second, .val (.long vi), .second] [(.long vi)])) (fun t k => XS.lload Xlp.here hx rfl (hb hby d4_8) rfl k) ?_
      refine go _ (Tlp.setTop (mkF m 11 #[.val (.ref o0), .val (.long q1), .second, .val (.long vd), .second, .val (.long vi), .second] [(.long q1), (.long vi)])) (fun t k => XS.lloadN Xlp.here hx rfl (hb hby d4_10) rfl k) ?_
      refine go _ (Tlp.setTop (mkF m 12 #[.val (.ref o0), .val (.long q1), .second, .val (.long vd), .second, .val (.long vi), .second] [(.int (lcmpW vi q1))])) (fun t k => XS.lcmp Xlp.here hx rfl (hb hby d4_11) rfl k) ?_
      rcases Decidable.em (vi < q1) with hc12 | hc12
      · refine go _ (Tlp.setTop (mkF m 15 #[.val (.ref o0), .val (.long q1), .second, .val (.long vd), .second, .val (.long vi), .second] [])) (fun t k => XS.ifNo Xlp.here hx rfl (hb hby d4_12) rfl ((if0 _ _).trans (tlt ((lw_lt _ _).mpr hc12)).2.1) k) ?_
        refine go _ (Tlp.setTop (mkF m 16 #[.val (.ref o0), .val (.long q1), .second, .val (.long vd), .second, .val (.long vi), .second] [(.long vd)])) (fun t k => XS.lloadN Xlp.here hx rfl (hb hby d4_15) rfl k) ?_
        refine go _ (Tlp.setTop (mkF m 17 #[.val (.ref o0), .val (.long q1), .second, .val (.long vd), .second, .val (.long vi), .second] [(.ref o0), (.long vd)])) (fun t k => XS.aloadN Xlp.here hx rfl (hb hby d4_16) rfl rfl k) ?_
        obtain ⟨T2, X2, e2, st2⟩ := getF Xlp hx hZ hown (host := "") (Or.inl (hw _ (List.mem_of_getElem? (i := 18) rfl))) Via.refl elp P1 (g := (mkF m 17 #[.val (.ref o0), .val (.long q1), .second, .val (.long vd), .second, .val (.long vi), .second] [(.ref o0), (.long vd)])) rfl rfl (hb hby d4_17)
        refine go _ (T2.setTop (mkF m 20 #[.val (.ref o0), .val (.long q1), .second, .val (.long vd), .second, .val (.long vi), .second] [(.long vl), (.long vd)])) st2 ?_
        refine go _ (T2.setTop (mkF m 21 #[.val (.ref o0), .val (.long q1), .second, .val (.long vd), .second, .val (.long vi), .second] [(.int (lcmpW vd vl))])) (fun t k => XS.lcmp X2.here hx rfl (hb hby d4_20) rfl k) ?_
        rcases Decidable.em (vd < vl) with hc21 | hc21
        · refine go _ (T2.setTop (mkF m 24 #[.val (.ref o0), .val (.long q1), .second, .val (.long vd), .second, .val (.long vi), .second] [])) (fun t k => XS.ifNo X2.here hx rfl (hb hby d4_21) rfl ((if0 _ _).trans (tlt ((lw_lt _ _).mpr hc21)).2.1) k) ?_
          refine go _ (T2.setTop (mkF m 25 #[.val (.ref o0), .val (.long q1), .second, .val (.long vd), .second, .val (.long vi), .second] [(.long vd)])) (fun t k => XS.lloadN X2.here hx rfl (hb hby d4_24) rfl k) ?_
          refine go _ (T2.setTop (mkF m 28 #[.val (.ref o0), .val (.long q1), .second, .val (.long vd), .second, .val (.long vi), .second] [(.long (2 : Int64)), (.long vd)])) (fun t k => X2.ldc2Long hx hown (mvT hZ (hw _ (List.mem_of_getElem? (i := 30) rfl))) (g := (mkF m 25 #[.val (.ref o0), .val (.long q1), .second, .val (.long vd), .second, .val (.long vi), .second] [(.long vd)])) rfl (hb hby d4_25) _ k) ?_
          refine go _ (T2.setTop (mkF m 29 #[.val (.ref o0), .val (.long q1), .second, .val (.long vd), .second, .val (.long vi), .second] [(.long (vd * (2 : Int64)))])) (fun t k => XS.lmul X2.here hx rfl (hb hby d4_28) rfl k) ?_
          refine go _ (T2.setTop (mkF m 30 #[.val (.ref o0), .val (.long q1), .second, .val (.long (vd * (2 : Int64))), .second, .val (.long vi), .second] [])) (fun t k => XS.lstoreN X2.here hx rfl (hb hby d4_29) rfl (l' := #[.val (.ref o0), .val (.long q1), .second, .val (.long (vd * (2 : Int64))), .second, .val (.long vi), .second]) rfl k) ?_
          refine go _ (T2.setTop (mkF m 32 #[.val (.ref o0), .val (.long q1), .second, .val (.long (vd * (2 : Int64))), .second, .val (.long vi), .second] [(.long vi)])) (fun t k => XS.lload X2.here hx rfl (hb hby d4_30) rfl k) ?_
          refine go _ (T2.setTop (mkF m 33 #[.val (.ref o0), .val (.long q1), .second, .val (.long (vd * (2 : Int64))), .second, .val (.long vi), .second] [(.long (1 : Int64)), (.long vi)])) (fun t k => XS.lconst X2.here hx rfl (hb hby d4_32) k) ?_
          refine go _ (T2.setTop (mkF m 34 #[.val (.ref o0), .val (.long q1), .second, .val (.long (vd * (2 : Int64))), .second, .val (.long vi), .second] [(.long (vi + (1 : Int64)))])) (fun t k => XS.ladd X2.here hx rfl (hb hby d4_33) rfl k) ?_
          refine go _ (T2.setTop (mkF m 36 #[.val (.ref o0), .val (.long q1), .second, .val (.long (vd * (2 : Int64))), .second, .val (.long (vi + (1 : Int64))), .second] [])) (fun t k => XS.lstore X2.here hx rfl (hb hby d4_34) rfl (l' := #[.val (.ref o0), .val (.long q1), .second, .val (.long (vd * (2 : Int64))), .second, .val (.long (vi + (1 : Int64))), .second]) rfl k) ?_
          refine go _ (T2.setTop (mkF m 8 #[.val (.ref o0), .val (.long q1), .second, .val (.long (vd * (2 : Int64))), .second, .val (.long (vi + (1 : Int64))), .second] [])) (fun t k => XS.goto X2.here hx rfl (pc0 := 36) (pc' := 8) rfl (hb hby d4_36) (by decide) (by decide) k) ?_
          exact ihlp T2 _ X2 Nlp e2 (vd * (2 : Int64)) (vi + (1 : Int64)) (by have := (own_Is hI hc12 hc21 hg hf).2; have := Int64.lt_iff_toInt_lt.mp hc12; omega) (own_Is hI hc12 hc21 hg hf).1
        · refine go _ (T2.setTop (mkF m 39 #[.val (.ref o0), .val (.long q1), .second, .val (.long vd), .second, .val (.long vi), .second] [])) (fun t k => XS.ifYes X2.here hx rfl (pc0 := 21) (pc' := 39) rfl (hb hby d4_21) rfl ((if0 _ _).trans (flt (fun q => hc21 ((lw_lt _ _).mp q))).2.1) (by decide) (by decide) k) ?_
          refine go _ (T2.setTop (mkF m 40 #[.val (.ref o0), .val (.long q1), .second, .val (.long vd), .second, .val (.long vi), .second] [(.long vd)])) (fun t k => XS.lloadN X2.here hx rfl (hb hby d4_39) rfl k) ?_
          refine go _ (T2.setTop (mkF m 41 #[.val (.ref o0), .val (.long q1), .second, .val (.long vd), .second, .val (.long vi), .second] [(.ref o0), (.long vd)])) (fun t k => XS.aloadN X2.here hx rfl (hb hby d4_40) rfl rfl k) ?_
          obtain ⟨T3, X3, e3, st3⟩ := getF X2 hx hZ hown (host := "") (Or.inl (hw _ (List.mem_of_getElem? (i := 18) rfl))) Via.refl e2 P1 (g := (mkF m 41 #[.val (.ref o0), .val (.long q1), .second, .val (.long vd), .second, .val (.long vi), .second] [(.ref o0), (.long vd)])) rfl rfl (hb hby d4_41)
          refine go _ (T3.setTop (mkF m 44 #[.val (.ref o0), .val (.long q1), .second, .val (.long vd), .second, .val (.long vi), .second] [(.long vl), (.long vd)])) st3 ?_
          obtain ⟨_, _, ⟨T4, L4, k4, n4⟩, -, X4, ⟨Lc4, hQ4, l4, y4, z4⟩, st4⟩ := Jvm.LawKit.callS X3 hx (y := (⟨"java/lang/Math", "min", "(JJ)J"⟩ : MethodName)) hown (mvT hZ (hw _ (List.mem_of_getElem? (i := 25) rfl))) (mvT hZ (hw _ (List.mem_of_getElem? (i := 26) rfl))) (mvT hZ (hw _ (List.mem_of_getElem? (i := 27) rfl))) (mvT hZ (hw _ (List.mem_of_getElem? (i := 28) rfl))) (by decide) (backOf (W := 0) (rm5 l Z a0 hw [] vd vl h0 n0 Z0) hZ (hw _ (List.mem_of_getElem? (i := 28) rfl)) (hw _ (List.mem_of_getElem? (i := 27) rfl)) (by decide) (by decide)) (g := (mkF m 44 #[.val (.ref o0), .val (.long q1), .second, .val (.long vd), .second, .val (.long vi), .second] [(.long vl), (.long vd)])) rfl (by rw [hml]; rfl) (argsL := [(.long vd), (.long vl)]) (rest := []) (lenOf own_pd_1 rfl) rfl (by show 2 * 0 + _ ≤ _; exact Nat.le_of_eq rfl) (hb hby d4_44) (fun _ _ => ⟨rfl, e3, (by decide : 0 + 0 ≤ _), (by decide : 0 + 0 ≤ _)⟩)
          dsimp only [Pt.U, Pt.locs, Pt.cells, Pt.slots] at X4 l4 y4 z4 st4 hQ4
          subst l4 y4 z4
          obtain ⟨rfl, Nq4, eq4⟩ := hQ4
          have N4 := Fr.app Nlp Nq4
          refine go _ (T4.setTop (mkF m 47 #[.val (.ref o0), .val (.long q1), .second, .val (.long vd), .second, .val (.long vi), .second] [(.long (own_spec5 vd vl))])) st4 ?_
          refine fin (some (.long (own_spec5 vd vl))) (mkF m 47 #[.val (.ref o0), .val (.long q1), .second, .val (.long vd), .second, .val (.long vi), .second] [(.long (own_spec5 vd vl))]) X4 (fun h => by cases h) (fun fs hr => retOut X4 hx (t := .long) hret rfl (Or.inr (Or.inl ⟨rfl, rfl, _, rfl⟩)) (hb hby d4_47) hr) ?_ (by decide) (by decide)
          try rw [eq4]
          exact ⟨by rw [own_Ie hI (Or.inr hc21) hf], N4, rfl⟩
      · refine go _ (Tlp.setTop (mkF m 39 #[.val (.ref o0), .val (.long q1), .second, .val (.long vd), .second, .val (.long vi), .second] [])) (fun t k => XS.ifYes Xlp.here hx rfl (pc0 := 12) (pc' := 39) rfl (hb hby d4_12) rfl ((if0 _ _).trans (flt (fun q => hc12 ((lw_lt _ _).mp q))).2.1) (by decide) (by decide) k) ?_
        refine go _ (Tlp.setTop (mkF m 40 #[.val (.ref o0), .val (.long q1), .second, .val (.long vd), .second, .val (.long vi), .second] [(.long vd)])) (fun t k => XS.lloadN Xlp.here hx rfl (hb hby d4_39) rfl k) ?_
        refine go _ (Tlp.setTop (mkF m 41 #[.val (.ref o0), .val (.long q1), .second, .val (.long vd), .second, .val (.long vi), .second] [(.ref o0), (.long vd)])) (fun t k => XS.aloadN Xlp.here hx rfl (hb hby d4_40) rfl rfl k) ?_
        obtain ⟨T5, X5, e5, st5⟩ := getF Xlp hx hZ hown (host := "") (Or.inl (hw _ (List.mem_of_getElem? (i := 18) rfl))) Via.refl elp P1 (g := (mkF m 41 #[.val (.ref o0), .val (.long q1), .second, .val (.long vd), .second, .val (.long vi), .second] [(.ref o0), (.long vd)])) rfl rfl (hb hby d4_41)
        refine go _ (T5.setTop (mkF m 44 #[.val (.ref o0), .val (.long q1), .second, .val (.long vd), .second, .val (.long vi), .second] [(.long vl), (.long vd)])) st5 ?_
        obtain ⟨_, _, ⟨T6, L6, k6, n6⟩, -, X6, ⟨Lc6, hQ6, l6, y6, z6⟩, st6⟩ := Jvm.LawKit.callS X5 hx (y := (⟨"java/lang/Math", "min", "(JJ)J"⟩ : MethodName)) hown (mvT hZ (hw _ (List.mem_of_getElem? (i := 25) rfl))) (mvT hZ (hw _ (List.mem_of_getElem? (i := 26) rfl))) (mvT hZ (hw _ (List.mem_of_getElem? (i := 27) rfl))) (mvT hZ (hw _ (List.mem_of_getElem? (i := 28) rfl))) (by decide) (backOf (W := 0) (rm5 l Z a0 hw [] vd vl h0 n0 Z0) hZ (hw _ (List.mem_of_getElem? (i := 28) rfl)) (hw _ (List.mem_of_getElem? (i := 27) rfl)) (by decide) (by decide)) (g := (mkF m 44 #[.val (.ref o0), .val (.long q1), .second, .val (.long vd), .second, .val (.long vi), .second] [(.long vl), (.long vd)])) rfl (by rw [hml]; rfl) (argsL := [(.long vd), (.long vl)]) (rest := []) (lenOf own_pd_1 rfl) rfl (by show 2 * 0 + _ ≤ _; exact Nat.le_of_eq rfl) (hb hby d4_44) (fun _ _ => ⟨rfl, e5, (by decide : 0 + 0 ≤ _), (by decide : 0 + 0 ≤ _)⟩)
        dsimp only [Pt.U, Pt.locs, Pt.cells, Pt.slots] at X6 l6 y6 z6 st6 hQ6
        subst l6 y6 z6
        obtain ⟨rfl, Nq6, eq6⟩ := hQ6
        have N6 := Fr.app Nlp Nq6
        refine go _ (T6.setTop (mkF m 47 #[.val (.ref o0), .val (.long q1), .second, .val (.long vd), .second, .val (.long vi), .second] [(.long (own_spec5 vd vl))])) st6 ?_
        refine fin (some (.long (own_spec5 vd vl))) (mkF m 47 #[.val (.ref o0), .val (.long q1), .second, .val (.long vd), .second, .val (.long vi), .second] [(.long (own_spec5 vd vl))]) X6 (fun h => by cases h) (fun fs hr => retOut X6 hx (t := .long) hret rfl (Or.inr (Or.inl ⟨rfl, rfl, _, rfl⟩)) (hb hby d4_47) hr) ?_ (by decide) (by decide)
        try rw [eq6]
        exact ⟨by rw [own_Ie hI (Or.inl hc12) hf], N6, rfl⟩
  exact lp ((q1.toInt - (1 : Int64).toInt).toNat + 1) T1 _ X1 N0 e1 vf (1 : Int64) (Nat.lt_succ_self _) (own_I0 vf q1)
theorem own_ef0 (m : MethodId) (q0 : Int64) (q2 : Int64) (q4 : Int64) : entryFrame m #[(.long q0), (.long q2), (.long q4)] maxLocals = mkF m 0 #[.val (.long q0), .second, .val (.long q2), .second, .val (.long q4), .second, .unset, .unset, .unset, .unset, .unset, .unset, .unset, .unset, .unset, .unset, .unset] [] := by first | (simp [entryFrame, mkF, argsToLocals, Value.category, maxLocals]; done) | rfl
theorem own_pn0 : plainName "com/example/postledger/postledger/BackoffNthPinLaw" = true := by first | (simp [plainName, overriddenIn]; done) | decide +kernel
theorem own_pd_2 : parseMethodDescriptor "(JJ)V" = some ⟨[.long, .long], none⟩ := by decide +kernel
theorem own_pd_3 : parseMethodDescriptor "(J)J" = some ⟨[.long], some .long⟩ := by decide +kernel
def own_Q0 (Z : State) (q0 : Int64) (q2 : Int64) (q4 : Int64) (h0 : Heap) (n0 : Nat) (v : Option Value) (h : Heap) (L : List Loc) : Prop := v = some (.int 1) ∧ Fr n0 L
set_option maxRecDepth 65536 in
set_option maxHeartbeats 40000000 in
theorem rm0 (l : Launch) (Z : State) (a0 : Array Value) (hw : ∀ d ∈ tables_1, d.before a0 Z = true) (ws : List Jvm.Cond) (q0 : Int64) (q2 : Int64) (q4 : Int64) (h0 : Heap) (n0 : Nat) (Z0 : n0 ≤ h0.size) :
    MetFree l x (head1 (Jvm.Cond.code x code maxLocals ret :: ws) room_1) (fun a U => a = #[(.long q0), (.long q2), (.long q4)] ∧ Z.Warmed39 U.vm ∧ U.heap = h0) (fun _ _ _ _ _ => True) (fun _ U o U' => ∃ v L, o = .returned v ∧ own_Q0 Z q0 q2 q4 h0 n0 v U'.heap L ∧ FrameEnd U o U' L room_1.cells room_1.slots) := by
  refine own_metfree (Q := own_Q0 Z q0 q2 q4 h0 n0) (plainFor_of_name own_pn0) ?_
  intro p e s m below meth c s₁ X0 hx hby hml hret hown hnm hZ e0 G go fin
  have N0 := Fr.nil n0
  refine go _ (s₁.setTop (mkF m 0 #[.val (.long q0), .second, .val (.long q2), .second, .val (.long q4), .second, .unset, .unset, .unset, .unset, .unset, .unset, .unset, .unset, .unset, .unset, .unset] [])) (fun t k => castTop (own_ef0 m q0 q2 q4) k) ?_
  refine go _ (s₁.setTop (mkF m 1 #[.val (.long q0), .second, .val (.long q2), .second, .val (.long q4), .second, .unset, .unset, .unset, .unset, .unset, .unset, .unset, .unset, .unset, .unset, .unset] [(.long (1 : Int64))])) (fun t k => XS.lconst X0.here hx rfl (hb hby at_0) k) ?_
  refine go _ (s₁.setTop (mkF m 2 #[.val (.long q0), .second, .val (.long q2), .second, .val (.long q4), .second, .unset, .unset, .unset, .unset, .unset, .unset, .unset, .unset, .unset, .unset, .unset] [(.long q2), (.long (1 : Int64))])) (fun t k => XS.lloadN X0.here hx rfl (hb hby at_1) rfl k) ?_
  refine go _ (s₁.setTop (mkF m 5 #[.val (.long q0), .second, .val (.long q2), .second, .val (.long q4), .second, .unset, .unset, .unset, .unset, .unset, .unset, .unset, .unset, .unset, .unset, .unset] [(.long (9223372036854775807 : Int64)), (.long q2), (.long (1 : Int64))])) (fun t k => X0.ldc2Long hx hown (mvT hZ (hw _ (List.mem_of_getElem? (i := 0) rfl))) (g := (mkF m 2 #[.val (.long q0), .second, .val (.long q2), .second, .val (.long q4), .second, .unset, .unset, .unset, .unset, .unset, .unset, .unset, .unset, .unset, .unset, .unset] [(.long q2), (.long (1 : Int64))])) rfl (hb hby at_2) _ k) ?_
  refine go _ (s₁.setTop (mkF m 6 #[.val (.long q0), .second, .val (.long q2), .second, .val (.long q4), .second, .unset, .unset, .unset, .unset, .unset, .unset, .unset, .unset, .unset, .unset, .unset] [(.long (q2 &&& (9223372036854775807 : Int64))), (.long (1 : Int64))])) (fun t k => XS.land X0.here hx rfl (hb hby at_5) rfl k) ?_
  refine go _ (s₁.setTop (mkF m 9 #[.val (.long q0), .second, .val (.long q2), .second, .val (.long q4), .second, .unset, .unset, .unset, .unset, .unset, .unset, .unset, .unset, .unset, .unset, .unset] [(.long (4611686018427387904 : Int64)), (.long (q2 &&& (9223372036854775807 : Int64))), (.long (1 : Int64))])) (fun t k => X0.ldc2Long hx hown (mvT hZ (hw _ (List.mem_of_getElem? (i := 1) rfl))) (g := (mkF m 6 #[.val (.long q0), .second, .val (.long q2), .second, .val (.long q4), .second, .unset, .unset, .unset, .unset, .unset, .unset, .unset, .unset, .unset, .unset, .unset] [(.long (q2 &&& (9223372036854775807 : Int64))), (.long (1 : Int64))])) rfl (hb hby at_6) _ k) ?_
  refine go _ (s₁.setTop (mkF m 10 #[.val (.long q0), .second, .val (.long q2), .second, .val (.long q4), .second, .unset, .unset, .unset, .unset, .unset, .unset, .unset, .unset, .unset, .unset, .unset] [(.long ((q2 &&& (9223372036854775807 : Int64)) % (4611686018427387904 : Int64))), (.long (1 : Int64))])) (fun t k => own_lrem X0.here hx rfl (hb hby at_9) rfl (show (4611686018427387904 : Int64) ≠ 0 from by decide) k) ?_
  refine go _ (s₁.setTop (mkF m 11 #[.val (.long q0), .second, .val (.long q2), .second, .val (.long q4), .second, .unset, .unset, .unset, .unset, .unset, .unset, .unset, .unset, .unset, .unset, .unset] [(.long ((1 : Int64) + ((q2 &&& (9223372036854775807 : Int64)) % (4611686018427387904 : Int64))))])) (fun t k => XS.ladd X0.here hx rfl (hb hby at_10) rfl k) ?_
  generalize hv_vl : ((1 : Int64) + ((q2 &&& (9223372036854775807 : Int64)) % (4611686018427387904 : Int64))) = vl
  have hl := own_l q2
  rw [hv_vl] at hl
  refine go _ (s₁.setTop (mkF m 13 #[.val (.long q0), .second, .val (.long q2), .second, .val (.long q4), .second, .val (.long vl), .second, .unset, .unset, .unset, .unset, .unset, .unset, .unset, .unset, .unset] [])) (fun t k => XS.lstore X0.here hx rfl (hb hby at_11) rfl (l' := #[.val (.long q0), .second, .val (.long q2), .second, .val (.long q4), .second, .val (.long vl), .second, .unset, .unset, .unset, .unset, .unset, .unset, .unset, .unset, .unset]) rfl k) ?_
  refine go _ (s₁.setTop (mkF m 14 #[.val (.long q0), .second, .val (.long q2), .second, .val (.long q4), .second, .val (.long vl), .second, .unset, .unset, .unset, .unset, .unset, .unset, .unset, .unset, .unset] [(.long (1 : Int64))])) (fun t k => XS.lconst X0.here hx rfl (hb hby at_13) k) ?_
  refine go _ (s₁.setTop (mkF m 15 #[.val (.long q0), .second, .val (.long q2), .second, .val (.long q4), .second, .val (.long vl), .second, .unset, .unset, .unset, .unset, .unset, .unset, .unset, .unset, .unset] [(.long q0), (.long (1 : Int64))])) (fun t k => XS.lloadN X0.here hx rfl (hb hby at_14) rfl k) ?_
  refine go _ (s₁.setTop (mkF m 18 #[.val (.long q0), .second, .val (.long q2), .second, .val (.long q4), .second, .val (.long vl), .second, .unset, .unset, .unset, .unset, .unset, .unset, .unset, .unset, .unset] [(.long (9223372036854775807 : Int64)), (.long q0), (.long (1 : Int64))])) (fun t k => X0.ldc2Long hx hown (mvT hZ (hw _ (List.mem_of_getElem? (i := 0) rfl))) (g := (mkF m 15 #[.val (.long q0), .second, .val (.long q2), .second, .val (.long q4), .second, .val (.long vl), .second, .unset, .unset, .unset, .unset, .unset, .unset, .unset, .unset, .unset] [(.long q0), (.long (1 : Int64))])) rfl (hb hby at_15) _ k) ?_
  refine go _ (s₁.setTop (mkF m 19 #[.val (.long q0), .second, .val (.long q2), .second, .val (.long q4), .second, .val (.long vl), .second, .unset, .unset, .unset, .unset, .unset, .unset, .unset, .unset, .unset] [(.long (q0 &&& (9223372036854775807 : Int64))), (.long (1 : Int64))])) (fun t k => XS.land X0.here hx rfl (hb hby at_18) rfl k) ?_
  refine go _ (s₁.setTop (mkF m 21 #[.val (.long q0), .second, .val (.long q2), .second, .val (.long q4), .second, .val (.long vl), .second, .unset, .unset, .unset, .unset, .unset, .unset, .unset, .unset, .unset] [(.long vl), (.long (q0 &&& (9223372036854775807 : Int64))), (.long (1 : Int64))])) (fun t k => XS.lload X0.here hx rfl (hb hby at_19) rfl k) ?_
  refine go _ (s₁.setTop (mkF m 22 #[.val (.long q0), .second, .val (.long q2), .second, .val (.long q4), .second, .val (.long vl), .second, .unset, .unset, .unset, .unset, .unset, .unset, .unset, .unset, .unset] [(.long ((q0 &&& (9223372036854775807 : Int64)) % vl)), (.long (1 : Int64))])) (fun t k => own_lrem X0.here hx rfl (hb hby at_21) rfl (show vl ≠ 0 from own_ne hl) k) ?_
  refine go _ (s₁.setTop (mkF m 23 #[.val (.long q0), .second, .val (.long q2), .second, .val (.long q4), .second, .val (.long vl), .second, .unset, .unset, .unset, .unset, .unset, .unset, .unset, .unset, .unset] [(.long ((1 : Int64) + ((q0 &&& (9223372036854775807 : Int64)) % vl)))])) (fun t k => XS.ladd X0.here hx rfl (hb hby at_22) rfl k) ?_
  generalize hv_vf : ((1 : Int64) + ((q0 &&& (9223372036854775807 : Int64)) % vl)) = vf
  have hf := own_f q0 vl hl
  rw [hv_vf] at hf
  refine go _ (s₁.setTop (mkF m 25 #[.val (.long q0), .second, .val (.long q2), .second, .val (.long q4), .second, .val (.long vl), .second, .val (.long vf), .second, .unset, .unset, .unset, .unset, .unset, .unset, .unset] [])) (fun t k => XS.lstore X0.here hx rfl (hb hby at_23) rfl (l' := #[.val (.long q0), .second, .val (.long q2), .second, .val (.long q4), .second, .val (.long vl), .second, .val (.long vf), .second, .unset, .unset, .unset, .unset, .unset, .unset, .unset]) rfl k) ?_
  obtain ⟨T1, h1, X1, e1, E1, Ax1, D1, -, st1⟩ := newO X0 hx hZ hown (hw _ (List.mem_of_getElem? (i := 2) rfl)) (hw _ (List.mem_of_getElem? (i := 3) rfl)) (hw _ (List.mem_of_getElem? (i := 4) rfl)) e0 (g := (mkF m 25 #[.val (.long q0), .second, .val (.long q2), .second, .val (.long q4), .second, .val (.long vl), .second, .val (.long vf), .second, .unset, .unset, .unset, .unset, .unset, .unset, .unset] [])) rfl (hb hby at_25) (by decide) (by decide)
  obtain ⟨b1, gb1⟩ : ∃ z, z = h0.size := ⟨_, rfl⟩
  rw [← gb1] at Ax1 D1 st1
  have g_b1 : n0 ≤ b1 := Nat.le_trans Z0 (Nat.le_of_eq gb1.symm)
  have sz_b1 : h0.size ≤ b1 := (Nat.le_of_eq gb1.symm)
  have F_first_b1 : Fld Z h1 b1 "com/example/postledger/postledger/Backoff" "first" "J" (.long (0 : Int64)) := D1 (Or.inr (hw _ (List.mem_of_getElem? (i := 17) rfl))) (ty := .long) (by decide)
  have F_longest_b1 : Fld Z h1 b1 "com/example/postledger/postledger/Backoff" "longest" "J" (.long (0 : Int64)) := D1 (Or.inr (hw _ (List.mem_of_getElem? (i := 19) rfl))) (ty := .long) (by decide)
  refine go _ (T1.setTop (mkF m 28 #[.val (.long q0), .second, .val (.long q2), .second, .val (.long q4), .second, .val (.long vl), .second, .val (.long vf), .second, .unset, .unset, .unset, .unset, .unset, .unset, .unset] [(.ref b1)])) st1 ?_
  refine go _ (T1.setTop (mkF m 29 #[.val (.long q0), .second, .val (.long q2), .second, .val (.long q4), .second, .val (.long vl), .second, .val (.long vf), .second, .unset, .unset, .unset, .unset, .unset, .unset, .unset] [(.ref b1), (.ref b1)])) (fun t k => XS.dup X1.here hx rfl (hb hby at_28) rfl rfl k) ?_
  refine go _ (T1.setTop (mkF m 31 #[.val (.long q0), .second, .val (.long q2), .second, .val (.long q4), .second, .val (.long vl), .second, .val (.long vf), .second, .unset, .unset, .unset, .unset, .unset, .unset, .unset] [(.long vf), (.ref b1), (.ref b1)])) (fun t k => XS.lload X1.here hx rfl (hb hby at_29) rfl k) ?_
  refine go _ (T1.setTop (mkF m 33 #[.val (.long q0), .second, .val (.long q2), .second, .val (.long q4), .second, .val (.long vl), .second, .val (.long vf), .second, .unset, .unset, .unset, .unset, .unset, .unset, .unset] [(.long vl), (.long vf), (.ref b1), (.ref b1)])) (fun t k => XS.lload X1.here hx rfl (hb hby at_31) rfl k) ?_
  have Z2z : n0 ≤ h1.size := (Nat.le_trans Z0 E1.1)
  obtain ⟨_, _, ⟨T3, L3, k3, n3⟩, -, X3, ⟨Lc3, hQ3, l3, y3, z3⟩, st3⟩ := X1.specialBack hx (y := (⟨"com/example/postledger/postledger/Backoff", "<init>", "(JJ)V"⟩ : MethodName)) rfl hown (mvT hZ (hw _ (List.mem_of_getElem? (i := 5) rfl))) (mvT hZ (hw _ (List.mem_of_getElem? (i := 6) rfl))) (mvT hZ (hw _ (List.mem_of_getElem? (i := 7) rfl))) (by decide) (backOf (W := 1) (rm1 l Z a0 hw [] b1 vf vl h1 n0 Z2z F_first_b1 F_longest_b1 Ax1 g_b1) hZ (hw _ (List.mem_of_getElem? (i := 7) rfl)) (hw _ (List.mem_of_getElem? (i := 4) rfl)) (by decide) (by decide)) (g := (mkF m 33 #[.val (.long q0), .second, .val (.long q2), .second, .val (.long q4), .second, .val (.long vl), .second, .val (.long vf), .second, .unset, .unset, .unset, .unset, .unset, .unset, .unset] [(.long vl), (.long vf), (.ref b1), (.ref b1)])) rfl (by rw [hml]; rfl) (Steps.refl _) (a := b1) (argsL := [(.long vf), (.long vl)]) (rest := [(.ref b1)]) (lenOf own_pd_2 rfl) rfl (by show 2 * 0 + _ ≤ _; exact Nat.le_of_eq rfl) (hb hby at_33) (fun _ _ => ⟨rfl, e1, (by decide : 1 + 0 ≤ _), (by decide : 2 + 0 ≤ _)⟩)
  dsimp only [Pt.U, Pt.locs, Pt.cells, Pt.slots] at X3 l3 y3 z3 st3 hQ3
  subst l3 y3 z3
  obtain ⟨rfl, Nq3, K3, Ex3, Fa3_0, Fa3_1⟩ := hQ3
  have N3 := Fr.app N0 Nq3
  refine go _ (T3.setTop (mkF m 36 #[.val (.long q0), .second, .val (.long q2), .second, .val (.long q4), .second, .val (.long vl), .second, .val (.long vf), .second, .unset, .unset, .unset, .unset, .unset, .unset, .unset] [(.ref b1)])) (fun t k => st3.trans k) ?_
  refine go _ (T3.setTop (mkF m 38 #[.val (.long q0), .second, .val (.long q2), .second, .val (.long q4), .second, .val (.long vl), .second, .val (.long vf), .second, .val (.ref b1), .unset, .unset, .unset, .unset, .unset, .unset] [])) (fun t k => XS.astore X3.here hx rfl (hb hby at_36) rfl rfl (l' := #[.val (.long q0), .second, .val (.long q2), .second, .val (.long q4), .second, .val (.long vl), .second, .val (.long vf), .second, .val (.ref b1), .unset, .unset, .unset, .unset, .unset, .unset]) rfl k) ?_
  refine go _ (T3.setTop (mkF m 40 #[.val (.long q0), .second, .val (.long q2), .second, .val (.long q4), .second, .val (.long vl), .second, .val (.long vf), .second, .val (.ref b1), .unset, .unset, .unset, .unset, .unset, .unset] [(.ref b1)])) (fun t k => XS.aload X3.here hx rfl (hb hby at_38) rfl rfl k) ?_
  refine go _ (T3.setTop (mkF m 42 #[.val (.long q0), .second, .val (.long q2), .second, .val (.long q4), .second, .val (.long vl), .second, .val (.long vf), .second, .val (.ref b1), .unset, .unset, .unset, .unset, .unset, .unset] [(.long q4), (.ref b1)])) (fun t k => XS.lload X3.here hx rfl (hb hby at_40) rfl k) ?_
  have Z4z : n0 ≤ T3.heap.size := (Nat.le_trans Z2z K3.1)
  obtain ⟨cq5, kq5, q5a, q5b, q5c⟩ := isOf hZ rfl Ex3
  obtain ⟨_, _, ⟨T5, L5, k5, n5⟩, -, X5, ⟨Lc5, hQ5, l5, y5, z5⟩, st5⟩ := X3.virtualBack hx (y := (⟨"com/example/postledger/postledger/Backoff", "nth", "(J)J"⟩ : MethodName)) (z := (⟨"com/example/postledger/postledger/Backoff", "nth", "(J)J"⟩ : MethodName)) hown (mvT hZ (hw _ (List.mem_of_getElem? (i := 20) rfl))) (mvT hZ (hw _ (List.mem_of_getElem? (i := 21) rfl))) (notFace_of_selects (args := #[]) (mvT hZ (hw _ (List.mem_of_getElem? (i := 23) rfl)))) (mvT hZ (hw _ (List.mem_of_getElem? (i := 23) rfl))) (mvT hZ (hw _ (List.mem_of_getElem? (i := 22) rfl))) (by decide) (backOf (W := 0) (rm4 l Z a0 hw [] b1 q4 vf vl T3.heap n0 Z4z Fa3_0 Fa3_1 hf.1 hl.2) hZ (hw _ (List.mem_of_getElem? (i := 24) rfl)) (hw _ (List.mem_of_getElem? (i := 4) rfl)) (by decide) (by decide)) q5a q5c (g := (mkF m 42 #[.val (.long q0), .second, .val (.long q2), .second, .val (.long q4), .second, .val (.long vl), .second, .val (.long vf), .second, .val (.ref b1), .unset, .unset, .unset, .unset, .unset, .unset] [(.long q4), (.ref b1)])) rfl (by rw [hml]; rfl) (Steps.refl _) (argsL := [(.long q4)]) (rest := []) (lenOf own_pd_3 rfl) rfl (by show 2 * 0 + _ ≤ _; exact Nat.le_of_eq rfl) (hb hby at_42) (fun _ _ => ⟨rfl, rfl, (by decide : 1 + 0 ≤ _), (by decide : 2 + 0 ≤ _)⟩)
  dsimp only [Pt.U, Pt.locs, Pt.cells, Pt.slots] at X5 l5 y5 z5 st5 hQ5
  subst l5 y5 z5
  obtain ⟨rfl, Nq5, eq5⟩ := hQ5
  have N5 := Fr.app N3 Nq5
  refine go _ (T5.setTop (mkF m 45 #[.val (.long q0), .second, .val (.long q2), .second, .val (.long q4), .second, .val (.long vl), .second, .val (.long vf), .second, .val (.ref b1), .unset, .unset, .unset, .unset, .unset, .unset] [(.long (Int64.ofInt (own_m vf.toInt vl.toInt q4.toInt)))])) (fun t k => st5.trans k) ?_
  refine go _ (T5.setTop (mkF m 47 #[.val (.long q0), .second, .val (.long q2), .second, .val (.long q4), .second, .val (.long vl), .second, .val (.long vf), .second, .val (.ref b1), .val (.long (Int64.ofInt (own_m vf.toInt vl.toInt q4.toInt))), .second, .unset, .unset, .unset, .unset] [])) (fun t k => XS.lstore X5.here hx rfl (hb hby at_45) rfl (l' := #[.val (.long q0), .second, .val (.long q2), .second, .val (.long q4), .second, .val (.long vl), .second, .val (.long vf), .second, .val (.ref b1), .val (.long (Int64.ofInt (own_m vf.toInt vl.toInt q4.toInt))), .second, .unset, .unset, .unset, .unset]) rfl k) ?_
  refine go _ (T5.setTop (mkF m 49 #[.val (.long q0), .second, .val (.long q2), .second, .val (.long q4), .second, .val (.long vl), .second, .val (.long vf), .second, .val (.ref b1), .val (.long (Int64.ofInt (own_m vf.toInt vl.toInt q4.toInt))), .second, .unset, .unset, .unset, .unset] [(.long q4)])) (fun t k => XS.lload X5.here hx rfl (hb hby at_47) rfl k) ?_
  refine go _ (T5.setTop (mkF m 50 #[.val (.long q0), .second, .val (.long q2), .second, .val (.long q4), .second, .val (.long vl), .second, .val (.long vf), .second, .val (.ref b1), .val (.long (Int64.ofInt (own_m vf.toInt vl.toInt q4.toInt))), .second, .unset, .unset, .unset, .unset] [(.long (1 : Int64)), (.long q4)])) (fun t k => XS.lconst X5.here hx rfl (hb hby at_49) k) ?_
  refine go _ (T5.setTop (mkF m 51 #[.val (.long q0), .second, .val (.long q2), .second, .val (.long q4), .second, .val (.long vl), .second, .val (.long vf), .second, .val (.ref b1), .val (.long (Int64.ofInt (own_m vf.toInt vl.toInt q4.toInt))), .second, .unset, .unset, .unset, .unset] [(.int (lcmpW q4 (1 : Int64)))])) (fun t k => XS.lcmp X5.here hx rfl (hb hby at_50) rfl k) ?_
  have j62 : ∀ (vs : Int64) (hs : 0 ≤ vs.toInt ∧ vs.toInt.toNat = (q4.toInt - 1).toNat), G (T5.setTop (mkF m 62 #[.val (.long q0), .second, .val (.long q2), .second, .val (.long q4), .second, .val (.long vl), .second, .val (.long vf), .second, .val (.ref b1), .val (.long (Int64.ofInt (own_m vf.toInt vl.toInt q4.toInt))), .second, .unset, .unset, .unset, .unset] [(.long vs)])) := by
    intro vs hs
    refine go _ (T5.setTop (mkF m 64 #[.val (.long q0), .second, .val (.long q2), .second, .val (.long q4), .second, .val (.long vl), .second, .val (.long vf), .second, .val (.ref b1), .val (.long (Int64.ofInt (own_m vf.toInt vl.toInt q4.toInt))), .second, .val (.long vs), .second, .unset, .unset] [])) (fun t k => XS.lstore X5.here hx rfl (hb hby at_62) rfl (l' := #[.val (.long q0), .second, .val (.long q2), .second, .val (.long q4), .second, .val (.long vl), .second, .val (.long vf), .second, .val (.ref b1), .val (.long (Int64.ofInt (own_m vf.toInt vl.toInt q4.toInt))), .second, .val (.long vs), .second, .unset, .unset]) rfl k) ?_
    refine go _ (T5.setTop (mkF m 66 #[.val (.long q0), .second, .val (.long q2), .second, .val (.long q4), .second, .val (.long vl), .second, .val (.long vf), .second, .val (.ref b1), .val (.long (Int64.ofInt (own_m vf.toInt vl.toInt q4.toInt))), .second, .val (.long vs), .second, .unset, .unset] [(.long vs)])) (fun t k => XS.lload X5.here hx rfl (hb hby at_64) rfl k) ?_
    refine go _ (T5.setTop (mkF m 69 #[.val (.long q0), .second, .val (.long q2), .second, .val (.long q4), .second, .val (.long vl), .second, .val (.long vf), .second, .val (.ref b1), .val (.long (Int64.ofInt (own_m vf.toInt vl.toInt q4.toInt))), .second, .val (.long vs), .second, .unset, .unset] [(.long (63 : Int64)), (.long vs)])) (fun t k => X5.ldc2Long hx hown (mvT hZ (hw _ (List.mem_of_getElem? (i := 29) rfl))) (g := (mkF m 66 #[.val (.long q0), .second, .val (.long q2), .second, .val (.long q4), .second, .val (.long vl), .second, .val (.long vf), .second, .val (.ref b1), .val (.long (Int64.ofInt (own_m vf.toInt vl.toInt q4.toInt))), .second, .val (.long vs), .second, .unset, .unset] [(.long vs)])) rfl (hb hby at_66) _ k) ?_
    refine go _ (T5.setTop (mkF m 70 #[.val (.long q0), .second, .val (.long q2), .second, .val (.long q4), .second, .val (.long vl), .second, .val (.long vf), .second, .val (.ref b1), .val (.long (Int64.ofInt (own_m vf.toInt vl.toInt q4.toInt))), .second, .val (.long vs), .second, .unset, .unset] [(.int (lcmpW vs (63 : Int64)))])) (fun t k => XS.lcmp X5.here hx rfl (hb hby at_69) rfl k) ?_
    rcases Decidable.em (vs < (63 : Int64)) with hc70 | hc70
    · refine go _ (T5.setTop (mkF m 80 #[.val (.long q0), .second, .val (.long q2), .second, .val (.long q4), .second, .val (.long vl), .second, .val (.long vf), .second, .val (.ref b1), .val (.long (Int64.ofInt (own_m vf.toInt vl.toInt q4.toInt))), .second, .val (.long vs), .second, .unset, .unset] [])) (fun t k => XS.ifYes X5.here hx rfl (pc0 := 70) (pc' := 80) rfl (hb hby at_70) rfl ((if0 _ _).trans (tlt ((lw_lt _ _).mpr hc70)).1) (by decide) (by decide) k) ?_
      refine go _ (T5.setTop (mkF m 82 #[.val (.long q0), .second, .val (.long q2), .second, .val (.long q4), .second, .val (.long vl), .second, .val (.long vf), .second, .val (.ref b1), .val (.long (Int64.ofInt (own_m vf.toInt vl.toInt q4.toInt))), .second, .val (.long vs), .second, .unset, .unset] [(.long vf)])) (fun t k => XS.lload X5.here hx rfl (hb hby at_80) rfl k) ?_
      refine go _ (T5.setTop (mkF m 84 #[.val (.long q0), .second, .val (.long q2), .second, .val (.long q4), .second, .val (.long vl), .second, .val (.long vf), .second, .val (.ref b1), .val (.long (Int64.ofInt (own_m vf.toInt vl.toInt q4.toInt))), .second, .val (.long vs), .second, .unset, .unset] [(.long vl), (.long vf)])) (fun t k => XS.lload X5.here hx rfl (hb hby at_82) rfl k) ?_
      refine go _ (T5.setTop (mkF m 86 #[.val (.long q0), .second, .val (.long q2), .second, .val (.long q4), .second, .val (.long vl), .second, .val (.long vf), .second, .val (.ref b1), .val (.long (Int64.ofInt (own_m vf.toInt vl.toInt q4.toInt))), .second, .val (.long vs), .second, .unset, .unset] [(.long vs), (.long vl), (.long vf)])) (fun t k => XS.lload X5.here hx rfl (hb hby at_84) rfl k) ?_
      refine go _ (T5.setTop (mkF m 87 #[.val (.long q0), .second, .val (.long q2), .second, .val (.long q4), .second, .val (.long vl), .second, .val (.long vf), .second, .val (.ref b1), .val (.long (Int64.ofInt (own_m vf.toInt vl.toInt q4.toInt))), .second, .val (.long vs), .second, .unset, .unset] [(.int (vs.toInt32)), (.long vl), (.long vf)])) (fun t k => XS.l2i X5.here hx rfl (hb hby at_86) rfl k) ?_
      refine go _ (T5.setTop (mkF m 88 #[.val (.long q0), .second, .val (.long q2), .second, .val (.long q4), .second, .val (.long vl), .second, .val (.long vf), .second, .val (.ref b1), .val (.long (Int64.ofInt (own_m vf.toInt vl.toInt q4.toInt))), .second, .val (.long vs), .second, .unset, .unset] [(.long (vl >>> ((vs.toInt32) &&& 0x3f).toInt64)), (.long vf)])) (fun t k => XS.lshr X5.here hx rfl (hb hby at_87) rfl k) ?_
      refine go _ (T5.setTop (mkF m 89 #[.val (.long q0), .second, .val (.long q2), .second, .val (.long q4), .second, .val (.long vl), .second, .val (.long vf), .second, .val (.ref b1), .val (.long (Int64.ofInt (own_m vf.toInt vl.toInt q4.toInt))), .second, .val (.long vs), .second, .unset, .unset] [(.int (lcmpW vf (vl >>> ((vs.toInt32) &&& 0x3f).toInt64)))])) (fun t k => XS.lcmp X5.here hx rfl (hb hby at_88) rfl k) ?_
      rcases Decidable.em ((vl >>> ((vs.toInt32) &&& 0x3f).toInt64) < vf) with hc89 | hc89
      · refine go _ (T5.setTop (mkF m 103 #[.val (.long q0), .second, .val (.long q2), .second, .val (.long q4), .second, .val (.long vl), .second, .val (.long vf), .second, .val (.ref b1), .val (.long (Int64.ofInt (own_m vf.toInt vl.toInt q4.toInt))), .second, .val (.long vs), .second, .unset, .unset] [])) (fun t k => XS.ifYes X5.here hx rfl (pc0 := 89) (pc' := 103) rfl (hb hby at_89) rfl ((if0 _ _).trans (tlt ((lw_gt _ _).mpr hc89)).2.2.1) (by decide) (by decide) k) ?_
        refine go _ (T5.setTop (mkF m 105 #[.val (.long q0), .second, .val (.long q2), .second, .val (.long q4), .second, .val (.long vl), .second, .val (.long vf), .second, .val (.ref b1), .val (.long (Int64.ofInt (own_m vf.toInt vl.toInt q4.toInt))), .second, .val (.long vs), .second, .unset, .unset] [(.long vl)])) (fun t k => XS.lload X5.here hx rfl (hb hby at_103) rfl k) ?_
        refine go _ (T5.setTop (mkF m 107 #[.val (.long q0), .second, .val (.long q2), .second, .val (.long q4), .second, .val (.long vl), .second, .val (.long vf), .second, .val (.ref b1), .val (.long (Int64.ofInt (own_m vf.toInt vl.toInt q4.toInt))), .second, .val (.long vs), .second, .val (.long vl), .second] [])) (fun t k => XS.lstore X5.here hx rfl (hb hby at_105) rfl (l' := #[.val (.long q0), .second, .val (.long q2), .second, .val (.long q4), .second, .val (.long vl), .second, .val (.long vf), .second, .val (.ref b1), .val (.long (Int64.ofInt (own_m vf.toInt vl.toInt q4.toInt))), .second, .val (.long vs), .second, .val (.long vl), .second]) rfl k) ?_
        refine go _ (T5.setTop (mkF m 109 #[.val (.long q0), .second, .val (.long q2), .second, .val (.long q4), .second, .val (.long vl), .second, .val (.long vf), .second, .val (.ref b1), .val (.long (Int64.ofInt (own_m vf.toInt vl.toInt q4.toInt))), .second, .val (.long vs), .second, .val (.long vl), .second] [(.long (Int64.ofInt (own_m vf.toInt vl.toInt q4.toInt)))])) (fun t k => XS.lload X5.here hx rfl (hb hby at_107) rfl k) ?_
        refine go _ (T5.setTop (mkF m 111 #[.val (.long q0), .second, .val (.long q2), .second, .val (.long q4), .second, .val (.long vl), .second, .val (.long vf), .second, .val (.ref b1), .val (.long (Int64.ofInt (own_m vf.toInt vl.toInt q4.toInt))), .second, .val (.long vs), .second, .val (.long vl), .second] [(.long vl), (.long (Int64.ofInt (own_m vf.toInt vl.toInt q4.toInt)))])) (fun t k => XS.lload X5.here hx rfl (hb hby at_109) rfl k) ?_
        refine go _ (T5.setTop (mkF m 112 #[.val (.long q0), .second, .val (.long q2), .second, .val (.long q4), .second, .val (.long vl), .second, .val (.long vf), .second, .val (.ref b1), .val (.long (Int64.ofInt (own_m vf.toInt vl.toInt q4.toInt))), .second, .val (.long vs), .second, .val (.long vl), .second] [(.int (lcmpW (Int64.ofInt (own_m vf.toInt vl.toInt q4.toInt)) vl))])) (fun t k => XS.lcmp X5.here hx rfl (hb hby at_111) rfl k) ?_
        have hc112 : (Int64.ofInt (own_m vf.toInt vl.toInt q4.toInt)) = vl := by exact own_e2 hf hl.2 hs hc70 hc89
        refine go _ (T5.setTop (mkF m 115 #[.val (.long q0), .second, .val (.long q2), .second, .val (.long q4), .second, .val (.long vl), .second, .val (.long vf), .second, .val (.ref b1), .val (.long (Int64.ofInt (own_m vf.toInt vl.toInt q4.toInt))), .second, .val (.long vs), .second, .val (.long vl), .second] [])) (fun t k => XS.ifNo X5.here hx rfl (hb hby at_112) rfl ((if0 _ _).trans (teq ((lw_eq _ _).mpr hc112)).2) k) ?_
        refine go _ (T5.setTop (mkF m 116 #[.val (.long q0), .second, .val (.long q2), .second, .val (.long q4), .second, .val (.long vl), .second, .val (.long vf), .second, .val (.ref b1), .val (.long (Int64.ofInt (own_m vf.toInt vl.toInt q4.toInt))), .second, .val (.long vs), .second, .val (.long vl), .second] [(.int (1 : Int32))])) (fun t k => XS.iconst X5.here hx rfl (hb hby at_115) k) ?_
        refine go _ (T5.setTop (mkF m 120 #[.val (.long q0), .second, .val (.long q2), .second, .val (.long q4), .second, .val (.long vl), .second, .val (.long vf), .second, .val (.ref b1), .val (.long (Int64.ofInt (own_m vf.toInt vl.toInt q4.toInt))), .second, .val (.long vs), .second, .val (.long vl), .second] [(.int (1 : Int32))])) (fun t k => XS.goto X5.here hx rfl (pc0 := 116) (pc' := 120) rfl (hb hby at_116) (by decide) (by decide) k) ?_
        refine fin (some (.int (1 : Int32))) (mkF m 120 #[.val (.long q0), .second, .val (.long q2), .second, .val (.long q4), .second, .val (.long vl), .second, .val (.long vf), .second, .val (.ref b1), .val (.long (Int64.ofInt (own_m vf.toInt vl.toInt q4.toInt))), .second, .val (.long vs), .second, .val (.long vl), .second] [(.int (1 : Int32))]) X5 (fun h => by cases h) (fun fs hr => retOut X5 hx (t := .boolean) hret rfl (Or.inl ⟨rfl, by simp, _, rfl⟩) (hb hby at_120) hr) ?_ (by decide) (by decide)
        exact ⟨rfl, N5⟩
      · refine go _ (T5.setTop (mkF m 92 #[.val (.long q0), .second, .val (.long q2), .second, .val (.long q4), .second, .val (.long vl), .second, .val (.long vf), .second, .val (.ref b1), .val (.long (Int64.ofInt (own_m vf.toInt vl.toInt q4.toInt))), .second, .val (.long vs), .second, .unset, .unset] [])) (fun t k => XS.ifNo X5.here hx rfl (hb hby at_89) rfl ((if0 _ _).trans (flt (fun q => hc89 ((lw_gt _ _).mp q))).2.2.1) k) ?_
        refine go _ (T5.setTop (mkF m 94 #[.val (.long q0), .second, .val (.long q2), .second, .val (.long q4), .second, .val (.long vl), .second, .val (.long vf), .second, .val (.ref b1), .val (.long (Int64.ofInt (own_m vf.toInt vl.toInt q4.toInt))), .second, .val (.long vs), .second, .unset, .unset] [(.long vf)])) (fun t k => XS.lload X5.here hx rfl (hb hby at_92) rfl k) ?_
        refine go _ (T5.setTop (mkF m 96 #[.val (.long q0), .second, .val (.long q2), .second, .val (.long q4), .second, .val (.long vl), .second, .val (.long vf), .second, .val (.ref b1), .val (.long (Int64.ofInt (own_m vf.toInt vl.toInt q4.toInt))), .second, .val (.long vs), .second, .unset, .unset] [(.long vs), (.long vf)])) (fun t k => XS.lload X5.here hx rfl (hb hby at_94) rfl k) ?_
        refine go _ (T5.setTop (mkF m 97 #[.val (.long q0), .second, .val (.long q2), .second, .val (.long q4), .second, .val (.long vl), .second, .val (.long vf), .second, .val (.ref b1), .val (.long (Int64.ofInt (own_m vf.toInt vl.toInt q4.toInt))), .second, .val (.long vs), .second, .unset, .unset] [(.int (vs.toInt32)), (.long vf)])) (fun t k => XS.l2i X5.here hx rfl (hb hby at_96) rfl k) ?_
        refine go _ (T5.setTop (mkF m 98 #[.val (.long q0), .second, .val (.long q2), .second, .val (.long q4), .second, .val (.long vl), .second, .val (.long vf), .second, .val (.ref b1), .val (.long (Int64.ofInt (own_m vf.toInt vl.toInt q4.toInt))), .second, .val (.long vs), .second, .unset, .unset] [(.long (vf <<< ((vs.toInt32) &&& 0x3f).toInt64))])) (fun t k => XS.lshl X5.here hx rfl (hb hby at_97) rfl k) ?_
        refine go _ (T5.setTop (mkF m 100 #[.val (.long q0), .second, .val (.long q2), .second, .val (.long q4), .second, .val (.long vl), .second, .val (.long vf), .second, .val (.ref b1), .val (.long (Int64.ofInt (own_m vf.toInt vl.toInt q4.toInt))), .second, .val (.long vs), .second, .val (.long (vf <<< ((vs.toInt32) &&& 0x3f).toInt64)), .second] [])) (fun t k => XS.lstore X5.here hx rfl (hb hby at_98) rfl (l' := #[.val (.long q0), .second, .val (.long q2), .second, .val (.long q4), .second, .val (.long vl), .second, .val (.long vf), .second, .val (.ref b1), .val (.long (Int64.ofInt (own_m vf.toInt vl.toInt q4.toInt))), .second, .val (.long vs), .second, .val (.long (vf <<< ((vs.toInt32) &&& 0x3f).toInt64)), .second]) rfl k) ?_
        refine go _ (T5.setTop (mkF m 107 #[.val (.long q0), .second, .val (.long q2), .second, .val (.long q4), .second, .val (.long vl), .second, .val (.long vf), .second, .val (.ref b1), .val (.long (Int64.ofInt (own_m vf.toInt vl.toInt q4.toInt))), .second, .val (.long vs), .second, .val (.long (vf <<< ((vs.toInt32) &&& 0x3f).toInt64)), .second] [])) (fun t k => XS.goto X5.here hx rfl (pc0 := 100) (pc' := 107) rfl (hb hby at_100) (by decide) (by decide) k) ?_
        refine go _ (T5.setTop (mkF m 109 #[.val (.long q0), .second, .val (.long q2), .second, .val (.long q4), .second, .val (.long vl), .second, .val (.long vf), .second, .val (.ref b1), .val (.long (Int64.ofInt (own_m vf.toInt vl.toInt q4.toInt))), .second, .val (.long vs), .second, .val (.long (vf <<< ((vs.toInt32) &&& 0x3f).toInt64)), .second] [(.long (Int64.ofInt (own_m vf.toInt vl.toInt q4.toInt)))])) (fun t k => XS.lload X5.here hx rfl (hb hby at_107) rfl k) ?_
        refine go _ (T5.setTop (mkF m 111 #[.val (.long q0), .second, .val (.long q2), .second, .val (.long q4), .second, .val (.long vl), .second, .val (.long vf), .second, .val (.ref b1), .val (.long (Int64.ofInt (own_m vf.toInt vl.toInt q4.toInt))), .second, .val (.long vs), .second, .val (.long (vf <<< ((vs.toInt32) &&& 0x3f).toInt64)), .second] [(.long (vf <<< ((vs.toInt32) &&& 0x3f).toInt64)), (.long (Int64.ofInt (own_m vf.toInt vl.toInt q4.toInt)))])) (fun t k => XS.lload X5.here hx rfl (hb hby at_109) rfl k) ?_
        refine go _ (T5.setTop (mkF m 112 #[.val (.long q0), .second, .val (.long q2), .second, .val (.long q4), .second, .val (.long vl), .second, .val (.long vf), .second, .val (.ref b1), .val (.long (Int64.ofInt (own_m vf.toInt vl.toInt q4.toInt))), .second, .val (.long vs), .second, .val (.long (vf <<< ((vs.toInt32) &&& 0x3f).toInt64)), .second] [(.int (lcmpW (Int64.ofInt (own_m vf.toInt vl.toInt q4.toInt)) (vf <<< ((vs.toInt32) &&& 0x3f).toInt64)))])) (fun t k => XS.lcmp X5.here hx rfl (hb hby at_111) rfl k) ?_
        have hc112 : (Int64.ofInt (own_m vf.toInt vl.toInt q4.toInt)) = (vf <<< ((vs.toInt32) &&& 0x3f).toInt64) := by exact own_e3 hf hl.2 hs hc70 hc89
        refine go _ (T5.setTop (mkF m 115 #[.val (.long q0), .second, .val (.long q2), .second, .val (.long q4), .second, .val (.long vl), .second, .val (.long vf), .second, .val (.ref b1), .val (.long (Int64.ofInt (own_m vf.toInt vl.toInt q4.toInt))), .second, .val (.long vs), .second, .val (.long (vf <<< ((vs.toInt32) &&& 0x3f).toInt64)), .second] [])) (fun t k => XS.ifNo X5.here hx rfl (hb hby at_112) rfl ((if0 _ _).trans (teq ((lw_eq _ _).mpr hc112)).2) k) ?_
        refine go _ (T5.setTop (mkF m 116 #[.val (.long q0), .second, .val (.long q2), .second, .val (.long q4), .second, .val (.long vl), .second, .val (.long vf), .second, .val (.ref b1), .val (.long (Int64.ofInt (own_m vf.toInt vl.toInt q4.toInt))), .second, .val (.long vs), .second, .val (.long (vf <<< ((vs.toInt32) &&& 0x3f).toInt64)), .second] [(.int (1 : Int32))])) (fun t k => XS.iconst X5.here hx rfl (hb hby at_115) k) ?_
        refine go _ (T5.setTop (mkF m 120 #[.val (.long q0), .second, .val (.long q2), .second, .val (.long q4), .second, .val (.long vl), .second, .val (.long vf), .second, .val (.ref b1), .val (.long (Int64.ofInt (own_m vf.toInt vl.toInt q4.toInt))), .second, .val (.long vs), .second, .val (.long (vf <<< ((vs.toInt32) &&& 0x3f).toInt64)), .second] [(.int (1 : Int32))])) (fun t k => XS.goto X5.here hx rfl (pc0 := 116) (pc' := 120) rfl (hb hby at_116) (by decide) (by decide) k) ?_
        refine fin (some (.int (1 : Int32))) (mkF m 120 #[.val (.long q0), .second, .val (.long q2), .second, .val (.long q4), .second, .val (.long vl), .second, .val (.long vf), .second, .val (.ref b1), .val (.long (Int64.ofInt (own_m vf.toInt vl.toInt q4.toInt))), .second, .val (.long vs), .second, .val (.long (vf <<< ((vs.toInt32) &&& 0x3f).toInt64)), .second] [(.int (1 : Int32))]) X5 (fun h => by cases h) (fun fs hr => retOut X5 hx (t := .boolean) hret rfl (Or.inl ⟨rfl, by simp, _, rfl⟩) (hb hby at_120) hr) ?_ (by decide) (by decide)
        exact ⟨rfl, N5⟩
    · refine go _ (T5.setTop (mkF m 73 #[.val (.long q0), .second, .val (.long q2), .second, .val (.long q4), .second, .val (.long vl), .second, .val (.long vf), .second, .val (.ref b1), .val (.long (Int64.ofInt (own_m vf.toInt vl.toInt q4.toInt))), .second, .val (.long vs), .second, .unset, .unset] [])) (fun t k => XS.ifNo X5.here hx rfl (hb hby at_70) rfl ((if0 _ _).trans (flt (fun q => hc70 ((lw_lt _ _).mp q))).1) k) ?_
      refine go _ (T5.setTop (mkF m 75 #[.val (.long q0), .second, .val (.long q2), .second, .val (.long q4), .second, .val (.long vl), .second, .val (.long vf), .second, .val (.ref b1), .val (.long (Int64.ofInt (own_m vf.toInt vl.toInt q4.toInt))), .second, .val (.long vs), .second, .unset, .unset] [(.long vl)])) (fun t k => XS.lload X5.here hx rfl (hb hby at_73) rfl k) ?_
      refine go _ (T5.setTop (mkF m 77 #[.val (.long q0), .second, .val (.long q2), .second, .val (.long q4), .second, .val (.long vl), .second, .val (.long vf), .second, .val (.ref b1), .val (.long (Int64.ofInt (own_m vf.toInt vl.toInt q4.toInt))), .second, .val (.long vs), .second, .val (.long vl), .second] [])) (fun t k => XS.lstore X5.here hx rfl (hb hby at_75) rfl (l' := #[.val (.long q0), .second, .val (.long q2), .second, .val (.long q4), .second, .val (.long vl), .second, .val (.long vf), .second, .val (.ref b1), .val (.long (Int64.ofInt (own_m vf.toInt vl.toInt q4.toInt))), .second, .val (.long vs), .second, .val (.long vl), .second]) rfl k) ?_
      refine go _ (T5.setTop (mkF m 107 #[.val (.long q0), .second, .val (.long q2), .second, .val (.long q4), .second, .val (.long vl), .second, .val (.long vf), .second, .val (.ref b1), .val (.long (Int64.ofInt (own_m vf.toInt vl.toInt q4.toInt))), .second, .val (.long vs), .second, .val (.long vl), .second] [])) (fun t k => XS.goto X5.here hx rfl (pc0 := 77) (pc' := 107) rfl (hb hby at_77) (by decide) (by decide) k) ?_
      refine go _ (T5.setTop (mkF m 109 #[.val (.long q0), .second, .val (.long q2), .second, .val (.long q4), .second, .val (.long vl), .second, .val (.long vf), .second, .val (.ref b1), .val (.long (Int64.ofInt (own_m vf.toInt vl.toInt q4.toInt))), .second, .val (.long vs), .second, .val (.long vl), .second] [(.long (Int64.ofInt (own_m vf.toInt vl.toInt q4.toInt)))])) (fun t k => XS.lload X5.here hx rfl (hb hby at_107) rfl k) ?_
      refine go _ (T5.setTop (mkF m 111 #[.val (.long q0), .second, .val (.long q2), .second, .val (.long q4), .second, .val (.long vl), .second, .val (.long vf), .second, .val (.ref b1), .val (.long (Int64.ofInt (own_m vf.toInt vl.toInt q4.toInt))), .second, .val (.long vs), .second, .val (.long vl), .second] [(.long vl), (.long (Int64.ofInt (own_m vf.toInt vl.toInt q4.toInt)))])) (fun t k => XS.lload X5.here hx rfl (hb hby at_109) rfl k) ?_
      refine go _ (T5.setTop (mkF m 112 #[.val (.long q0), .second, .val (.long q2), .second, .val (.long q4), .second, .val (.long vl), .second, .val (.long vf), .second, .val (.ref b1), .val (.long (Int64.ofInt (own_m vf.toInt vl.toInt q4.toInt))), .second, .val (.long vs), .second, .val (.long vl), .second] [(.int (lcmpW (Int64.ofInt (own_m vf.toInt vl.toInt q4.toInt)) vl))])) (fun t k => XS.lcmp X5.here hx rfl (hb hby at_111) rfl k) ?_
      have hc112 : (Int64.ofInt (own_m vf.toInt vl.toInt q4.toInt)) = vl := by exact own_e1 hf hl.2 hs hc70
      refine go _ (T5.setTop (mkF m 115 #[.val (.long q0), .second, .val (.long q2), .second, .val (.long q4), .second, .val (.long vl), .second, .val (.long vf), .second, .val (.ref b1), .val (.long (Int64.ofInt (own_m vf.toInt vl.toInt q4.toInt))), .second, .val (.long vs), .second, .val (.long vl), .second] [])) (fun t k => XS.ifNo X5.here hx rfl (hb hby at_112) rfl ((if0 _ _).trans (teq ((lw_eq _ _).mpr hc112)).2) k) ?_
      refine go _ (T5.setTop (mkF m 116 #[.val (.long q0), .second, .val (.long q2), .second, .val (.long q4), .second, .val (.long vl), .second, .val (.long vf), .second, .val (.ref b1), .val (.long (Int64.ofInt (own_m vf.toInt vl.toInt q4.toInt))), .second, .val (.long vs), .second, .val (.long vl), .second] [(.int (1 : Int32))])) (fun t k => XS.iconst X5.here hx rfl (hb hby at_115) k) ?_
      refine go _ (T5.setTop (mkF m 120 #[.val (.long q0), .second, .val (.long q2), .second, .val (.long q4), .second, .val (.long vl), .second, .val (.long vf), .second, .val (.ref b1), .val (.long (Int64.ofInt (own_m vf.toInt vl.toInt q4.toInt))), .second, .val (.long vs), .second, .val (.long vl), .second] [(.int (1 : Int32))])) (fun t k => XS.goto X5.here hx rfl (pc0 := 116) (pc' := 120) rfl (hb hby at_116) (by decide) (by decide) k) ?_
      refine fin (some (.int (1 : Int32))) (mkF m 120 #[.val (.long q0), .second, .val (.long q2), .second, .val (.long q4), .second, .val (.long vl), .second, .val (.long vf), .second, .val (.ref b1), .val (.long (Int64.ofInt (own_m vf.toInt vl.toInt q4.toInt))), .second, .val (.long vs), .second, .val (.long vl), .second] [(.int (1 : Int32))]) X5 (fun h => by cases h) (fun fs hr => retOut X5 hx (t := .boolean) hret rfl (Or.inl ⟨rfl, by simp, _, rfl⟩) (hb hby at_120) hr) ?_ (by decide) (by decide)
      exact ⟨rfl, N5⟩
  rcases Decidable.em (q4 < (1 : Int64)) with hc51 | hc51
  · refine go _ (T5.setTop (mkF m 54 #[.val (.long q0), .second, .val (.long q2), .second, .val (.long q4), .second, .val (.long vl), .second, .val (.long vf), .second, .val (.ref b1), .val (.long (Int64.ofInt (own_m vf.toInt vl.toInt q4.toInt))), .second, .unset, .unset, .unset, .unset] [])) (fun t k => XS.ifNo X5.here hx rfl (hb hby at_51) rfl ((if0 _ _).trans (tlt ((lw_lt _ _).mpr hc51)).2.1) k) ?_
    refine go _ (T5.setTop (mkF m 55 #[.val (.long q0), .second, .val (.long q2), .second, .val (.long q4), .second, .val (.long vl), .second, .val (.long vf), .second, .val (.ref b1), .val (.long (Int64.ofInt (own_m vf.toInt vl.toInt q4.toInt))), .second, .unset, .unset, .unset, .unset] [(.long (0 : Int64))])) (fun t k => XS.lconst X5.here hx rfl (hb hby at_54) k) ?_
    refine go _ (T5.setTop (mkF m 62 #[.val (.long q0), .second, .val (.long q2), .second, .val (.long q4), .second, .val (.long vl), .second, .val (.long vf), .second, .val (.ref b1), .val (.long (Int64.ofInt (own_m vf.toInt vl.toInt q4.toInt))), .second, .unset, .unset, .unset, .unset] [(.long (0 : Int64))])) (fun t k => XS.goto X5.here hx rfl (pc0 := 55) (pc' := 62) rfl (hb hby at_55) (by decide) (by decide) k) ?_
    exact j62 (0 : Int64) (own_s1 hc51)
  · refine go _ (T5.setTop (mkF m 58 #[.val (.long q0), .second, .val (.long q2), .second, .val (.long q4), .second, .val (.long vl), .second, .val (.long vf), .second, .val (.ref b1), .val (.long (Int64.ofInt (own_m vf.toInt vl.toInt q4.toInt))), .second, .unset, .unset, .unset, .unset] [])) (fun t k => XS.ifYes X5.here hx rfl (pc0 := 51) (pc' := 58) rfl (hb hby at_51) rfl ((if0 _ _).trans (flt (fun q => hc51 ((lw_lt _ _).mp q))).2.1) (by decide) (by decide) k) ?_
    refine go _ (T5.setTop (mkF m 60 #[.val (.long q0), .second, .val (.long q2), .second, .val (.long q4), .second, .val (.long vl), .second, .val (.long vf), .second, .val (.ref b1), .val (.long (Int64.ofInt (own_m vf.toInt vl.toInt q4.toInt))), .second, .unset, .unset, .unset, .unset] [(.long q4)])) (fun t k => XS.lload X5.here hx rfl (hb hby at_58) rfl k) ?_
    refine go _ (T5.setTop (mkF m 61 #[.val (.long q0), .second, .val (.long q2), .second, .val (.long q4), .second, .val (.long vl), .second, .val (.long vf), .second, .val (.ref b1), .val (.long (Int64.ofInt (own_m vf.toInt vl.toInt q4.toInt))), .second, .unset, .unset, .unset, .unset] [(.long (1 : Int64)), (.long q4)])) (fun t k => XS.lconst X5.here hx rfl (hb hby at_60) k) ?_
    refine go _ (T5.setTop (mkF m 62 #[.val (.long q0), .second, .val (.long q2), .second, .val (.long q4), .second, .val (.long vl), .second, .val (.long vf), .second, .val (.ref b1), .val (.long (Int64.ofInt (own_m vf.toInt vl.toInt q4.toInt))), .second, .unset, .unset, .unset, .unset] [(.long (q4 - (1 : Int64)))])) (fun t k => XS.lsub X5.here hx rfl (hb hby at_61) rfl k) ?_
    exact j62 (q4 - (1 : Int64)) (own_s2 hc51)
set_option maxRecDepth 65536 in
set_option maxHeartbeats 40000000 in
theorem comes_1 {Post : Tables → Env → Array Value → State → Outcome → State → Prop} (hpost : ∀ tb e args s v u, (limb_1_1.after args s (.returned v) u = true ∧ limb_1_2.after args s (.returned v) u = true ∧ True) → FrameEnd s (.returned v) u (Jvm.fieldLocs frame_1_writes args s ++ Jvm.arrayLocs frame_1_arrays args s ++ Jvm.staticLocs frame_1_statics s) 16 128 → Post tb e args s (.returned v) u) :
    ArmFor flags0 classFile x code maxLocals ret World_1 tables_1 room_1 Calls_1 rest_1 Pre_1 Post := by
  intro l hfl _ _ p e ha hc hk s m args below hf hA hF happ hP
  obtain ⟨hcalls, hrest, hpre⟩ := hP
  obtain ⟨-, -, -, hnamed, -, -, -, hat⟩ := (Spec.applies_iff hf).mp happ
  obtain ⟨hg, hn⟩ := and_e (Cond.before_iff.mp (show (Jvm.Cond.and given_1 narrow_1).before args s = true from hpre))
  obtain ⟨gg1, gg2⟩ := and_e hg
  obtain ⟨gg3, gg4⟩ := and_e gg2
  obtain ⟨gg5, gg6⟩ := and_e gg4
  obtain ⟨w0, w1, w2, rfl⟩ : ∃ w0 w1 w2 : Value, args = #[w0, w1, w2] := by
    have hs : args.size = 3 := by simpa [Cond.value, given_1] using gg1
    obtain ⟨L⟩ := args
    match L, hs with
    | [w0, w1, w2], _ => exact ⟨w0, w1, w2, rfl⟩
  have hw := fun d (hd : d ∈ tables_1) => atoms_spec (ws := Jvm.Cond.code x code maxLocals ret :: tables_1) hat d (List.mem_cons_of_mem _ hd)
  have hfit : Fit s := fun {y c} hc i hi => by
    obtain ⟨ha, rfl⟩ := Array.getElem?_eq_some_iff.mp hc
    have q := List.all_eq_true.mp ((Array.all_eq_true_iff_forall_mem.mp hF) _ (Array.getElem_mem ha)) i (List.mem_range.mpr hi)
    simpa [Array.getElem?_eq_getElem hi] using q
  obtain ⟨i0, ei0⟩ := isL_v gg3
  obtain rfl : w0 = (.long i0) := Option.some.inj ei0
  obtain ⟨i1, ei1⟩ := isL_v gg5
  obtain rfl : w1 = (.long i1) := Option.some.inj ei1
  obtain ⟨i2, ei2⟩ := isL_v gg6
  obtain rfl : w2 = (.long i2) := Option.some.inj ei2
  obtain ⟨n, o, h1, h2, h3, _, L, rfl, ⟨rfl, N⟩, hq⟩ := rm0 l s _ hw tables_1 i0 i1 i2 s.heap s.heap.size (Nat.le_refl _)  p e ha hc hk s m _ below hf ((Spec.applies_iff_loose hf).mp happ).1 ⟨rfl, State.Warmed39.refl s, rfl⟩ trivial
  refine ⟨n, _, h1, h2, h3, hpost _ _ _ _ _ _ ⟨Cond.after_iff.mpr rfl, Cond.after_iff.mpr (eq_i res_at (Term.int_eval (1)) rfl), trivial⟩ ⟨hq.1, hq.2.1, (hq.2.2.sift fun y hy => Or.inr (N y hy)).mono (by decide) (by decide)⟩⟩
theorem main_1_1 : Claimed_1_1 := comes_1 fun _ _ _ _ _ _ h hF => ⟨h.1, hF⟩
theorem main_1_2 : Claimed_1_2 := comes_1 fun _ _ _ _ _ _ h hF => ⟨h.2.1, hF⟩
end Jvm.Pilot.@@N@@
namespace Jvm.Pilot.@@N@@
open Jvm Jvm.ClassFile Sem Op Lib Jvm.Free Jvm.Stand Jvm.Pilot.@@N@@.Jvm.D
/-! MADE BY PROGRAM (witnessworld.py) out of the Statement's table words and the real class files: 11 classes; the members and pool entries that the words name. The judged class is class 1, her method 1. -/
namespace start1
open Jvm.ClassFile
def u (s : String) : CpInfo := .utf8 (stringToUtf16 s)
/-- a pool by its gaps: so many unusable entries, then the entry; so many at the end -/
def gap : Nat → List CpInfo → List CpInfo
  | 0, r => r
  | n + 1, r => .unusable :: gap n r
def poolList (es : List (Nat × CpInfo)) (last : Nat) : List CpInfo := es.foldr (fun e r => gap e.1 (e.2 :: r)) (gap last [])
def pool (es : List (Nat × CpInfo)) (last : Nat) : Array CpInfo := ⟨poolList es last⟩
def fileOf (pool : Array CpInfo) (this : Nat) (attrs : Array Attribute := #[]) (ms : Array MethodInfo := #[]) (fl : Nat := 33) (sup : Nat := 0) (ifs : Array Nat := #[]) (fds : Array FieldInfo := #[]) : ClassFile where
  minorVersion := 0
  majorVersion := 65
  constantPool := pool
  accessFlags := fl
  thisClass := this
  superClass := sup
  interfaces := ifs
  fields := fds
  methods := ms
  attributes := attrs
def plain (name : String) (sup : Option ClassId) : Class where
  name := name
  kind := .ordinary
  loader := none
  accessFlags := 33
  super := sup
  interfaces := #[]
  cf := none
  fields := #[]
  methods := #[]
  instanceTypes := #[]
  staticTypes := #[]
  resolved := #[]
  callSites := []
  init := .initialized
  statics := none
  mirror := none

def pool0 : Array CpInfo := pool [(5, u "<init>"), (0, u "()V"), (1, .class_ 10), (1, u "java/lang/Object")] 113

def k0c0 : Code := { maxStack := 0, maxLocals := 1, code := object_method_1_code, exceptionTable := #[], attributes := #[] }
def k0m0 : Method := { name := "<init>", desc := "()V", sig := { parameters := [], returnType := none }, accessFlags := 1, code := some k0c0 }
/-- java/lang/Object -/
def k0 : Class := { plain "java/lang/Object" none with
  accessFlags := 33
  interfaces := #[]
  cf := some (fileOf pool0 8 #[] #[{ accessFlags := 1, nameIndex := 5, descriptorIndex := 6, attributes := #[] }] 33 0 #[] #[])
  fields := #[]
  methods := #[k0m0]
  instanceTypes := #[]
  staticTypes := #[]
  resolved := Array.replicate 124 none
  statics := none }

def pool1 : Array CpInfo := pool [(2, .class_ 4), (1, u "java/lang/Object"), (0, u "<init>"), (0, u "()V"), (2, .long 9223372036854775807), (1, .long 4611686018427387904), (1, .class_ 14), (0, u "com/example/postledger/postledger/Backoff"), (0, .methodref 13 16), (0, .nameAndType 5 17), (0, u "(JJ)V"), (0, .methodref 13 19), (0, .nameAndType 20 21), (0, u "nth"), (0, u "(J)J"), (0, .long 63), (1, .class_ 25), (0, u "com/example/postledger/postledger/BackoffNthPinLaw"), (2, u "law"), (0, u "(JJJ)Z")] 3

def k1m0 : Method := { name := "<init>", desc := "()V", sig := { parameters := [], returnType := none }, accessFlags := 2, code := none }
def k1c1 : Code := { maxStack := 6, maxLocals := 17, code := code, exceptionTable := #[], attributes := #[] }
def k1m1 : Method := { name := "law", desc := "(JJJ)Z", sig := { parameters := [.long, .long, .long], returnType := some .boolean }, accessFlags := 9, code := some k1c1 }
/-- com/example/postledger/postledger/BackoffNthPinLaw -/
def k1 : Class := { plain "com/example/postledger/postledger/BackoffNthPinLaw" (some 0) with
  accessFlags := 49
  interfaces := #[]
  cf := some (fileOf pool1 24 #[] #[{ accessFlags := 2, nameIndex := 5, descriptorIndex := 6, attributes := #[] }, { accessFlags := 9, nameIndex := 28, descriptorIndex := 29, attributes := #[] }] 49 2 #[] #[])
  fields := #[]
  methods := #[k1m0, k1m1]
  instanceTypes := #[]
  staticTypes := #[]
  resolved := Array.replicate 33 none
  statics := none }

def pool2 : Array CpInfo := pool [(1, .methodref 2 3), (0, .class_ 4), (0, .nameAndType 5 6), (0, u "java/lang/Object"), (0, u "<init>"), (0, u "()V"), (0, .class_ 8), (0, u "java/lang/Record")] 13

def k2c0 : Code := { maxStack := 1, maxLocals := 1, code := jdk_30_method_1_code, exceptionTable := #[], attributes := #[] }
def k2m0 : Method := { name := "<init>", desc := "()V", sig := { parameters := [], returnType := none }, accessFlags := 4, code := some k2c0 }
/-- java/lang/Record -/
def k2 : Class := { plain "java/lang/Record" (some 0) with
  accessFlags := 1057
  interfaces := #[]
  cf := some (fileOf pool2 7 #[] #[{ accessFlags := 4, nameIndex := 5, descriptorIndex := 6, attributes := #[] }] 1057 2 #[] #[])
  fields := #[]
  methods := #[k2m0]
  instanceTypes := #[]
  staticTypes := #[]
  resolved := Array.replicate 22 none
  statics := none }

def pool3 : Array CpInfo := pool [(1, .methodref 2 3), (0, .class_ 4), (0, .nameAndType 5 6), (0, u "java/lang/Record"), (0, u "<init>"), (0, u "()V"), (0, .fieldref 8 9), (0, .class_ 10), (0, .nameAndType 11 12), (0, u "com/example/postledger/postledger/Backoff"), (0, u "first"), (0, u "J"), (0, .fieldref 8 14), (0, .nameAndType 15 12), (0, u "longest"), (0, .long 2), (1, .methodref 19 20), (0, .class_ 21), (0, .nameAndType 22 23), (0, u "java/lang/Math"), (0, u "min"), (0, u "(JJ)J"), (12, u "(JJ)V"), (3, u "nth"), (0, u "(J)J")] 26

def k3c0 : Code := { maxStack := 3, maxLocals := 5, code := prog_1_method_1_code, exceptionTable := #[], attributes := #[] }
def k3m0 : Method := { name := "<init>", desc := "(JJ)V", sig := { parameters := [.long, .long], returnType := none }, accessFlags := 0, code := some k3c0 }
def k3c1 : Code := { maxStack := 4, maxLocals := 7, code := prog_1_method_2_code, exceptionTable := #[], attributes := #[] }
def k3m1 : Method := { name := "nth", desc := "(J)J", sig := { parameters := [.long], returnType := some .long }, accessFlags := 0, code := some k3c1 }
/-- com/example/postledger/postledger/Backoff -/
def k3 : Class := { plain "com/example/postledger/postledger/Backoff" (some 2) with
  accessFlags := 48
  interfaces := #[]
  cf := some (fileOf pool3 8 #[] #[{ accessFlags := 0, nameIndex := 5, descriptorIndex := 36, attributes := #[] }, { accessFlags := 0, nameIndex := 40, descriptorIndex := 41, attributes := #[] }] 48 2 #[] #[{ accessFlags := 18, nameIndex := 11, descriptorIndex := 12, attributes := #[] }, { accessFlags := 18, nameIndex := 15, descriptorIndex := 12, attributes := #[] }])
  fields := #[{ name := "first", type := .long, accessFlags := 18, slot := 0, constantValue := 0 }, { name := "longest", type := .long, accessFlags := 18, slot := 1, constantValue := 0 }]
  methods := #[k3m0, k3m1]
  instanceTypes := #[.long, .long]
  staticTypes := #[]
  resolved := Array.replicate 68 none
  statics := none }

def pool4 : Array CpInfo := pool [(1, .class_ 2), (0, u "java/lang/Math"), (1, .class_ 6), (1, u "java/lang/Object"), (0, u "<init>"), (0, u "()V"), (89, .class_ 100), (1, u "java/lang/Math$RandomNumberGeneratorHolder"), (20, u "(JJ)J"), (50, u "negativeZeroFloatBits"), (0, u "J"), (2, u "negativeZeroDoubleBits"), (24, u "min"), (43, u "$assertionsDisabled"), (0, u "Z"), (91, u "twoToTheDoubleScaleDown"), (0, u "D"), (4, u "twoToTheDoubleScaleUp"), (9, u "E"), (3, u "PI"), (2, u "TAU"), (2, u "DEGREES_TO_RADIANS"), (0, u "RADIANS_TO_DEGREES")] 94

def k4m0 : Method := { name := "<init>", desc := "()V", sig := { parameters := [], returnType := none }, accessFlags := 2, code := none }
def k4c1 : Code := { maxStack := 4, maxLocals := 4, code := jdk_29_method_70_code, exceptionTable := #[], attributes := #[] }
def k4m1 : Method := { name := "min", desc := "(JJ)J", sig := { parameters := [.long, .long], returnType := some .long }, accessFlags := 9, code := some k4c1 }
/-- java/lang/Math -/
def k4 : Class := { plain "java/lang/Math" (some 0) with
  accessFlags := 49
  interfaces := #[]
  cf := some (fileOf pool4 1 #[.nestMembers #[98]] #[{ accessFlags := 2, nameIndex := 7, descriptorIndex := 8, attributes := #[] }, { accessFlags := 9, nameIndex := 201, descriptorIndex := 121, attributes := #[] }] 49 4 #[] #[{ accessFlags := 25, nameIndex := 354, descriptorIndex := 339, attributes := #[] }, { accessFlags := 25, nameIndex := 358, descriptorIndex := 339, attributes := #[] }, { accessFlags := 25, nameIndex := 361, descriptorIndex := 339, attributes := #[] }, { accessFlags := 26, nameIndex := 364, descriptorIndex := 339, attributes := #[] }, { accessFlags := 26, nameIndex := 365, descriptorIndex := 339, attributes := #[] }, { accessFlags := 26, nameIndex := 172, descriptorIndex := 173, attributes := #[] }, { accessFlags := 26, nameIndex := 176, descriptorIndex := 173, attributes := #[] }, { accessFlags := 8, nameIndex := 344, descriptorIndex := 339, attributes := #[] }, { accessFlags := 8, nameIndex := 338, descriptorIndex := 339, attributes := #[] }, { accessFlags := 4120, nameIndex := 245, descriptorIndex := 246, attributes := #[] }])
  fields := #[{ name := "E", type := .double, accessFlags := 25, slot := 0, constantValue := 0 }, { name := "PI", type := .double, accessFlags := 25, slot := 1, constantValue := 0 }, { name := "TAU", type := .double, accessFlags := 25, slot := 2, constantValue := 0 }, { name := "DEGREES_TO_RADIANS", type := .double, accessFlags := 26, slot := 3, constantValue := 0 }, { name := "RADIANS_TO_DEGREES", type := .double, accessFlags := 26, slot := 4, constantValue := 0 }, { name := "negativeZeroFloatBits", type := .long, accessFlags := 26, slot := 5, constantValue := 0 }, { name := "negativeZeroDoubleBits", type := .long, accessFlags := 26, slot := 6, constantValue := 0 }, { name := "twoToTheDoubleScaleUp", type := .double, accessFlags := 8, slot := 7, constantValue := 0 }, { name := "twoToTheDoubleScaleDown", type := .double, accessFlags := 8, slot := 8, constantValue := 0 }, { name := "$assertionsDisabled", type := .boolean, accessFlags := 4120, slot := 9, constantValue := 0 }]
  methods := #[k4m0, k4m1]
  instanceTypes := #[]
  staticTypes := #[.double, .double, .double, .double, .double, .long, .long, .double, .double, .boolean]
  resolved := Array.replicate 460 none
  statics := none }

def pool5 : Array CpInfo := pool [(1, u "java/lang/Cloneable"), (0, .class_ 1), (0, u "java/lang/Object"), (0, .class_ 3)] 3

/-- java/lang/Cloneable -/
def k5 : Class := { plain "java/lang/Cloneable" (some 0) with
  accessFlags := 1537
  interfaces := #[]
  cf := some (fileOf pool5 2 #[] #[] 1537 4 #[] #[])
  fields := #[]
  methods := #[]
  instanceTypes := #[]
  staticTypes := #[]
  resolved := Array.replicate 8 none
  statics := none }

def pool6 : Array CpInfo := pool [(1, u "java/io/Serializable"), (0, .class_ 1), (0, u "java/lang/Object"), (0, .class_ 3)] 3

/-- java/io/Serializable -/
def k6 : Class := { plain "java/io/Serializable" (some 0) with
  accessFlags := 1537
  interfaces := #[]
  cf := some (fileOf pool6 2 #[] #[] 1537 4 #[] #[])
  fields := #[]
  methods := #[]
  instanceTypes := #[]
  staticTypes := #[]
  resolved := Array.replicate 8 none
  statics := none }

/-- the primitive byte -/
def k7 : Class := { plain "byte" none with kind := .primitive 'B', accessFlags := 0x411 }
/-- [B -/
def k8 : Class := { plain "[B" (some 0) with kind := .array 7 .byte, interfaces := #[5, 6], accessFlags := 1041 }

/-- the primitive int -/
def k9 : Class := { plain "int" none with kind := .primitive 'I', accessFlags := 0x411 }
/-- [I -/
def k10 : Class := { plain "[I" (some 0) with kind := .array 9 .int, interfaces := #[5, 6], accessFlags := 1041 }

def heap : Heap := #[]
def classes : Array Class := #[k0, k1, k2, k3, k4, k5, k6, k7, k8, k9, k10]
def interned : List (Array UInt16 × Addr) := []
def slotsUsed : Nat := 0
def theMethod : MethodId := ⟨1, 1⟩
def args0 : Array Value := #[.long 5, .long 3, .long 2]
def aboutOver (below : List Frame) : State where
  vm := { classes := classes, interned := interned.toArray }
  heap := heap
  slotsUsed := slotsUsed
  threads := #[{ frames := .invoking theMethod args0 :: below }]
def below0 : List Frame := [.native { method := ⟨0, 0⟩, args := #[] }]
def about1 : State := aboutOver below0
def p0 : Program := .bare "" "" ""
def e0 : Env := launch0.env 0 0 0
theorem w_frames : about1.frames = Frame.invoking theMethod args0 :: below0 := rfl
set_option maxRecDepth 65536 in
theorem w_args : argsFit about1.vm theMethod args0 = true := by decide +kernel
set_option maxRecDepth 65536 in
theorem w_heap : heapFits about1 = true := by decide +kernel
set_option maxRecDepth 65536 in
theorem w_runnable : about1.curStatus? = some .runnable := by decide +kernel
set_option maxRecDepth 65536 in
theorem w_alone : about1.alone = true := by decide +kernel
set_option maxRecDepth 65536 in
theorem w_named : about1.methodNamed? x = some theMethod := by decide +kernel
set_option maxRecDepth 65536 in
theorem w_hears : about1.hears theMethod below0 = true := by decide +kernel
set_option maxRecDepth 65536 in
theorem w_ripe : about1.ripe theMethod args0 below0 = true := by decide +kernel
theorem w_running : about1.status = .running := rfl
set_option maxRecDepth 65536 in
theorem w_room : about1.hasRoom e0.platform room_1 = true :=
  launch0.hasRoom_least _ room_1 (by decide +kernel) (by decide +kernel) (by decide +kernel) (by decide +kernel) (by decide +kernel) (by decide +kernel)
theorem allAtoms_all (ts : List Jvm.Cond) (a : Array Jvm.Value) (st : Jvm.State) : (allAtoms ts).before a st = ts.all (fun c => c.before a st) := by
  induction ts with
  | nil => rfl
  | cons c t ih =>
    show (Jvm.Cond.and c (allAtoms t)).before a st = _
    rw [Jvm.Cond.before_and, ih, List.all_cons]
def words1 : List Jvm.Cond := Jvm.Cond.code x code maxLocals ret :: tables_1
/-- a 'code' word, met by the world's own term for the bytes: nothing is compared byte by byte -/
theorem code_word {y : MethodName} {bytes : ByteArray} {mx : Nat} {rt : Option FieldType} {a : Array Value} {s : State} {m : MethodId} {meth : Method} {c : Code} (h1 : s.methodNamed? y = some m) (h2 : s.vm.method? m = some meth) (h3 : meth.code = some c) (h4 : c.code = bytes)
    (h5 : (c.maxLocals == mx && c.exceptionTable.isEmpty && decide (c.maxStack ≤ mostOperands) && decide (meth.sig.returnType = rt) && !meth.locks && decide (parseMethodDescriptor y.desc = some meth.sig)) = true) : (Jvm.Cond.code y bytes mx rt).before a s = true := by
  simp only [Bool.and_eq_true, beq_iff_eq, Bool.not_eq_true', decide_eq_true_eq] at h5
  obtain ⟨⟨⟨⟨⟨g1, g2⟩, g3⟩, g4⟩, g5⟩, g6⟩ := h5
  simp [Cond.before, Cond.holds, Cond.value, h1, h2, h3, h4, g1, g2, g3, g4, g5, g6]
def isCode : Jvm.Cond → Bool
  | .code _ _ _ _ => true
  | _ => false
theorem all_split {L : List Jvm.Cond} {P : Jvm.Cond → Bool} (h1 : L.all (fun c => isCode c || P c) = true) (h2 : ∀ c ∈ L.filter isCode, P c = true) : L.all P = true := by
  refine List.all_eq_true.mpr fun c hc => ?_
  have h := List.all_eq_true.mp h1 c hc
  rcases Bool.eq_false_or_eq_true (isCode c) with hi | hi
  · exact h2 c (List.mem_filter.mpr ⟨hc, hi⟩)
  · simpa [hi] using h
set_option maxRecDepth 65536 in
theorem w_c0 : (Jvm.Cond.code x code maxLocals ret).before args0 about1 = true := code_word (m := ⟨1, 1⟩) (meth := k1m1) (c := k1c1) (by decide +kernel) rfl rfl rfl (by decide +kernel)
set_option maxRecDepth 65536 in
theorem w_c1 : (Jvm.Cond.code ({ cls := "com/example/postledger/postledger/Backoff", name := "<init>", desc := "(JJ)V" } : Jvm.MethodName) prog_1_method_1_code (5 : Nat) (Option.none : Option Jvm.ClassFile.FieldType)).before args0 about1 = true := code_word (m := ⟨3, 0⟩) (meth := k3m0) (c := k3c0) (by decide +kernel) rfl rfl rfl (by decide +kernel)
set_option maxRecDepth 65536 in
theorem w_c2 : (Jvm.Cond.code ({ cls := "java/lang/Record", name := "<init>", desc := "()V" } : Jvm.MethodName) jdk_30_method_1_code (1 : Nat) (Option.none : Option Jvm.ClassFile.FieldType)).before args0 about1 = true := code_word (m := ⟨2, 0⟩) (meth := k2m0) (c := k2c0) (by decide +kernel) rfl rfl rfl (by decide +kernel)
set_option maxRecDepth 65536 in
theorem w_c3 : (Jvm.Cond.code ({ cls := "java/lang/Object", name := "<init>", desc := "()V" } : Jvm.MethodName) object_method_1_code (1 : Nat) (Option.none : Option Jvm.ClassFile.FieldType)).before args0 about1 = true := code_word (m := ⟨0, 0⟩) (meth := k0m0) (c := k0c0) (by decide +kernel) rfl rfl rfl (by decide +kernel)
set_option maxRecDepth 65536 in
theorem w_c4 : (Jvm.Cond.code ({ cls := "com/example/postledger/postledger/Backoff", name := "nth", desc := "(J)J" } : Jvm.MethodName) prog_1_method_2_code (7 : Nat) (Option.some Jvm.ClassFile.FieldType.long)).before args0 about1 = true := code_word (m := ⟨3, 1⟩) (meth := k3m1) (c := k3c1) (by decide +kernel) rfl rfl rfl (by decide +kernel)
set_option maxRecDepth 65536 in
theorem w_c5 : (Jvm.Cond.code ({ cls := "java/lang/Math", name := "min", desc := "(JJ)J" } : Jvm.MethodName) jdk_29_method_70_code (4 : Nat) (Option.some Jvm.ClassFile.FieldType.long)).before args0 about1 = true := code_word (m := ⟨4, 1⟩) (meth := k4m1) (c := k4c1) (by decide +kernel) rfl rfl rfl (by decide +kernel)
def codes1 : List Jvm.Cond := [Jvm.Cond.code x code maxLocals ret, Jvm.Cond.code ({ cls := "com/example/postledger/postledger/Backoff", name := "<init>", desc := "(JJ)V" } : Jvm.MethodName) prog_1_method_1_code (5 : Nat) (Option.none : Option Jvm.ClassFile.FieldType), Jvm.Cond.code ({ cls := "java/lang/Record", name := "<init>", desc := "()V" } : Jvm.MethodName) jdk_30_method_1_code (1 : Nat) (Option.none : Option Jvm.ClassFile.FieldType), Jvm.Cond.code ({ cls := "java/lang/Object", name := "<init>", desc := "()V" } : Jvm.MethodName) object_method_1_code (1 : Nat) (Option.none : Option Jvm.ClassFile.FieldType), Jvm.Cond.code ({ cls := "com/example/postledger/postledger/Backoff", name := "nth", desc := "(J)J" } : Jvm.MethodName) prog_1_method_2_code (7 : Nat) (Option.some Jvm.ClassFile.FieldType.long), Jvm.Cond.code ({ cls := "java/lang/Math", name := "min", desc := "(JJ)J" } : Jvm.MethodName) jdk_29_method_70_code (4 : Nat) (Option.some Jvm.ClassFile.FieldType.long)]
set_option maxRecDepth 65536 in
theorem codes_eq : words1.filter isCode = codes1 := rfl
theorem w_codes : ∀ c ∈ words1.filter isCode, c.before args0 about1 = true := by
  rw [codes_eq]
  intro c hc
  simp only [codes1, List.mem_cons, List.not_mem_nil, or_false] at hc
  rcases hc with rfl | rfl | rfl | rfl | rfl | rfl
  · exact w_c0
  · exact w_c1
  · exact w_c2
  · exact w_c3
  · exact w_c4
  · exact w_c5
set_option maxRecDepth 65536 in
theorem w_t1 : (words1.take 24).all (fun c => isCode c || c.before args0 about1) = true := by decide +kernel
set_option maxRecDepth 65536 in
theorem w_t2 : (words1.drop 24).all (fun c => isCode c || c.before args0 about1) = true := by decide +kernel
theorem w_tables : (allAtoms (Jvm.Cond.code x code maxLocals ret :: tables_1)).before args0 about1 = true := by
  rw [allAtoms_all]
  show words1.all (fun c => c.before args0 about1) = true
  refine all_split ?_ w_codes
  rw [← List.take_append_drop 24 words1, List.all_append, w_t1, w_t2]
  rfl
set_option maxRecDepth 65536 in
theorem w_case : (Jvm.Cond.and given_1 narrow_1).before args0 about1 = true := by decide +kernel
theorem w_applies : (headSpec (Jvm.Cond.code x code maxLocals ret :: tables_1) room_1).applies x e0.platform about1 = true :=
  (Spec.applies_iff w_frames).mpr ⟨w_running, w_runnable, w_alone, w_named, w_hears, w_ripe, w_room, w_tables⟩
theorem atStart : AtStart classFile x code maxLocals ret World_1 tables_1 room_1 Calls_1 rest_1 Pre_1 launch0 p0 e0 about1 theMethod args0 below0 :=
  ⟨lists_1, trivial, launch0.admits_env _ _ _, launch0.least_env, fairChoices_fair.cas, fairChoices_fair.clock, w_frames, w_args, w_heap, w_applies, trivial, trivial, w_case⟩
end start1
theorem witness_1 : WitnessClaimed_1 := ⟨start1.p0, start1.e0, start1.about1, start1.theMethod, start1.args0, start1.below0, start1.atStart⟩
end Jvm.Pilot.@@N@@
