import JvmDerived
import JvmDerived.Pilot.@@N@@Statement
import JvmDerived.Pilot.@@N@@Code
set_option linter.unusedVariables false
set_option linter.unusedSimpArgs false
namespace Jvm.Pilot.@@N@@
open Jvm Jvm.ClassFile Sem Op Lib Jvm.Free Jvm.Stand Jvm.LawKit Jvm.RoadKit Bundle Jvm.Pilot.@@N@@.Jvm.D
/-! my own layer: a body's walk by a predicate on states (go: one step on, fin: a return), arrays by their elements -/
theorem own_metfree {l : Launch} {x : MethodName} {ws : List Jvm.Cond} {R : Room} {code : ByteArray} {maxL : Nat} {ret : Option FieldType} {as' : Array Value} {Z : State} {h0 : Heap} {Q : Option Value → Heap → List Loc → Prop} (hpl : plainFor x = true)
    (body : ∀ (p : Program) (e : Env) (s : State) (m : MethodId) (below : List Frame) (meth : Method) (c : Code) (s₁ : State),
      Stand p l e R s m as' below meth c s₁ [] 0 0 → p.tables.exec = Jvm.exec → c.code = code → c.maxLocals = maxL → meth.sig.returnType = ret → s.vm.findClass x.cls = some m.cls → meth.name = x.name → Z.Warmed39 s.vm → s₁.heap = h0 →
      ∀ G : State → Prop, (∀ U U', (∀ t, Steps p.tables e below U' t → Steps p.tables e below U t) → G U' → G U) →
        (∀ {T : State} {locs : List Loc} {cells slots : Nat} (v : Option Value) (g : JFrame), Stand p l e R s m as' below meth c T locs cells slots → (ret = none → v = none) →
          (∀ fs, (∀ (f : JFrame) (acts : List Action), f.method = m → f.locked = none → f.entered = [] → (doReturn e (T.setTop f) acts v).1 = T.setFrames fs) → Steps p.tables e below (T.setTop g) (T.setFrames fs)) →
          Q v T.heap locs → cells ≤ R.cells → slots ≤ R.slots → G (T.setTop g)) →
        G (s₁.setTop (entryFrame m as' maxL))) :
    MetFree l x (head1 (Jvm.Cond.code x code maxL ret :: ws) R) (fun a U => a = as' ∧ Z.Warmed39 U.vm ∧ U.heap = h0) (fun _ _ _ _ _ => True) (fun _ U o U' => ∃ v L, o = .returned v ∧ Q v U'.heap L ∧ FrameEnd U o U' L R.cells R.slots) := by
  refine MetFree.of_bodySF hpl hisR ?_
  intro p e s m args below meth c s₁ Bd hml0 hP hK
  obtain ⟨rfl, hZ, hh⟩ := hP
  have X0 : Stand p l e R s m args below meth c s₁ [] 0 0 := Stand.of_body Bd
  refine body p e s m below meth c s₁ X0 Bd.exec Bd.bytes hml0 Bd.returns (findClass_of_methodNamed Bd.named) (name_of_methodNamed Bd.named Bd.method).1 hZ (by rw [← hh, Bd.state]; rfl)
    (fun U => ∃ s₂ o, Steps p.tables e below U s₂ ∧ s₂.status = .running ∧ Ended s₂ below o ∧ ∃ v L, o = .returned v ∧ Q v s₂.heap L ∧ FrameEnd s o s₂ L R.cells R.slots) ?_ ?_
  · rintro U U' h ⟨s₂, o, h1, h2⟩
    exact ⟨s₂, o, h _ h1, h2⟩
  · intro T locs cells slots v g X hv hst hq hc hs
    obtain ⟨fs, hr, hrun, hended, hW, hsame⟩ := X.leave (v := v) (by rw [Bd.returns]; exact hv)
    exact ⟨_, _, hst fs hr, hrun, hended, _, _, rfl, hq, ⟨_, rfl⟩, hW, hsame.mono hc hs⟩
theorem own_lrem {tb : Tables} [Ours tb] {e : Env} {below : List Frame} {T target : State} {m : MethodId} {c : Code} {g : JFrame} (h : At T m c below) (hx : tb.exec = Jvm.exec) (hg : g.method = m) {x y : Int64} {rest : List Value} (hd : decode c.code g.pc = .ok (.lrem, 1)) (hs : g.stack = .long y :: .long x :: rest) (hy : y ≠ 0)
    (hr : Steps tb e below (T.setTop { g with pc := g.pc + 1, stack := .long (x % y) :: rest }) target) : Steps tb e below (T.setTop g) target :=
  XS.lrem h hx hg hd hs hy (by rw [lrem_mod]; exact hr)
def own_iv : Value → Int32
  | .int x => x
  | _ => 0
def own_jv : Value → Int64
  | .long x => x
  | _ => 0
theorem own_iv_int (x : Int32) : own_iv (.int x) = x := rfl
theorem own_jv_long (x : Int64) : own_jv (.long x) = x := rfl
def own_up (f : Nat → Value) (i : Nat) (v : Value) : Nat → Value := fun k => if k = i then v else f k
theorem own_up_at (f : Nat → Value) (i : Nat) (v : Value) (k : Nat) : own_up f i v k = if k = i then v else f k := rfl
def own_Av (Z : State) (h : Heap) (a : Addr) (ty : FieldType) (n : Nat) (f : Nat → Value) : Prop := ∃ c : Cell, Arr Z h a c ty ∧ c.slots.size = n ∧ n < 2 ^ 31 ∧ ∀ i, i < n → c.slots[i]? = some (f i) ∧ fits ty (f i) = true
theorem own_Av.lt {Z : State} {h : Heap} {a : Addr} {ty : FieldType} {n : Nat} {f : Nat → Value} (A : own_Av Z h a ty n f) : a < h.size := by obtain ⟨c, Ar, -⟩ := A; exact Ar.lt
theorem own_Av.ext {Z : State} {h h' : Heap} {a : Addr} {ty : FieldType} {n : Nat} {f : Nat → Value} (A : own_Av Z h a ty n f) (E : Ext h h') : own_Av Z h' a ty n f := by obtain ⟨c, Ar, r⟩ := A; exact ⟨c, Ar.ext E, r⟩
theorem own_Av.other {Z : State} {h h' : Heap} {a b : Addr} {ty : FieldType} {n : Nat} {f : Nat → Value} {sl : Nat} {v : Value} (A : own_Av Z h a ty n f) (W : Wr h h' b sl v) (q : a ≠ b) : own_Av Z h' a ty n f := by obtain ⟨c, Ar, r⟩ := A; exact ⟨c, Ar.other W q, r⟩
theorem own_Av.keep {Z : State} {h h' : Heap} {a : Addr} {ty : FieldType} {n : Nat} {f : Nat → Value} {ws : List Addr} (A : own_Av Z h a ty n f) (K : Keep h h' ws) (q : a ∉ ws) : own_Av Z h' a ty n f := by obtain ⟨c, Ar, r⟩ := A; exact ⟨c, ⟨K.2.1 a c Ar.1 q, Ar.2⟩, r⟩
theorem own_Av.congr {Z : State} {h : Heap} {a : Addr} {ty : FieldType} {n : Nat} {f f' : Nat → Value} (A : own_Av Z h a ty n f) (q : ∀ i, i < n → f i = f' i) : own_Av Z h a ty n f' := by
  obtain ⟨c, Ar, h1, h2, h3⟩ := A
  exact ⟨c, Ar, h1, h2, fun i hi => by rw [← q i hi]; exact h3 i hi⟩
theorem own_Av.new {Z : State} {h : Heap} {a : Addr} {k : ClassId} {ty : FieldType} {z : Int32} {N : Nat} (A : Arr Z h a (newA k ty z) ty) (q : ¬ z < 0) (e : z.toNatClampNeg = N) : own_Av Z h a ty N (fun _ => defaultValue ty) := by
  have hs : (newA k ty z).slots.size = N := by rw [sz_new, e]
  refine ⟨_, A, hs, e ▸ (back32 q).2, fun i hi => ⟨?_, ?_⟩⟩
  · have hi' : i < (newA k ty z).slots.size := by rw [hs]; exact hi
    rw [Array.getElem?_eq_getElem hi']
    simp [newA]
  · cases ty <;> rfl
theorem own_nat {j : Int32} {i : Nat} (h : j.toInt = (i : Int)) : j.toNatClampNeg = i := by show j.toInt.toNat = i; omega
theorem own_nn {j : Int32} {i : Nat} (h : j.toInt = (i : Int)) : ¬ j < 0 := by
  rw [Int32.lt_iff_toInt_lt]
  have : (0 : Int32).toInt = 0 := by decide
  omega
theorem own_in {j : Int32} {i n : Nat} {cl : Cell} (hs : cl.slots.size = n) (h : j.toInt = (i : Int)) (hi : i < n) : ¬ (j < 0 ∨ cl.slots.size ≤ j.toNatClampNeg) := by
  rw [own_nat h, hs]; rintro (q | q)
  · exact own_nn h q
  · omega
theorem own_nar8 (y : Int32) : nar .byte y.toInt8.toInt32 = y.toInt8.toInt32 := by simp [nar]
theorem own_set {Z : State} {h h' : Heap} {a : Addr} {ty : FieldType} {n : Nat} {f : Nat → Value} {c : Cell} {i : Nat} {v : Value} (Ar : Arr Z h a c ty) (hs : c.slots.size = n) (hn : n < 2 ^ 31) (hf : ∀ i, i < n → c.slots[i]? = some (f i) ∧ fits ty (f i) = true) (W : Wr h h' a i v) (hv : fits ty v = true) (hi : i < n) : own_Av Z h' a ty n (own_up f i v) := by
  refine ⟨_, Ar.same W, by rw [sz_set]; exact hs, hn, fun k hk => ?_⟩
  simp only [own_up_at]
  by_cases q : k = i
  · subst q; simp [Cell.setSlot, hs, hi, hv]
  · rw [if_neg q]; refine ⟨?_, (hf k hk).2⟩; rw [← (hf k hk).1]; simp [Cell.setSlot, Array.getElem?_setIfInBounds, Ne.symm q]
section OwnArr
variable {p : Program} {l : Launch} {e : Env} {R : Room} {s : State} {m : MethodId} {args : Array Value} {below : List Frame} {meth : Method} {c : Code} {T : State} {locs : List Loc} {cells slots : Nat} {Z : State} {h : Heap} {a : Addr} {n : Nat} {f : Nat → Value}
theorem own_ldB (X : Stand p l e R s m args below meth c T locs cells slots) (hx : p.tables.exec = Jvm.exec) (hZ : Z.Warmed39 s.vm) (eT : T.heap = h) (A : own_Av Z h a .byte n f) {j : Int32} {i : Nat} (hj : j.toInt = (i : Int)) (hi : i < n) {g : JFrame} (hg : g.method = m) {rest : List Value} (hs : g.stack = .int j :: .ref a :: rest) (hd : decode c.code g.pc = .ok (.baload, 1)) (target : State)
    (k : Steps p.tables e below (T.setTop { g with pc := g.pc + 1, stack := .int (own_iv (f i)) :: rest }) target) : Steps p.tables e below (T.setTop g) target := by
  obtain ⟨cl, Ar, hsz, hn, hf⟩ := A
  have hat : cl.slots[j.toNatClampNeg]? = some (.int (own_iv (f i))) := by
    rw [own_nat hj, (hf i hi).1]; obtain ⟨x, q⟩ := fit_I (hf i hi).2 (by simp); rw [q]; rfl
  exact X.baloadBytes hx (by rw [eT]; exact Ar.1) (State.isArrayOf_alike hZ.alike Ar.2.1) Ar.2.2 (own_in hsz hj hi) hat hg hs hd target k
theorem own_ldI (X : Stand p l e R s m args below meth c T locs cells slots) (hx : p.tables.exec = Jvm.exec) (hZ : Z.Warmed39 s.vm) (eT : T.heap = h) (A : own_Av Z h a .int n f) {j : Int32} {i : Nat} (hj : j.toInt = (i : Int)) (hi : i < n) {g : JFrame} (hg : g.method = m) {rest : List Value} (hs : g.stack = .int j :: .ref a :: rest) (hd : decode c.code g.pc = .ok (.iaload, 1)) (target : State)
    (k : Steps p.tables e below (T.setTop { g with pc := g.pc + 1, stack := .int (own_iv (f i)) :: rest }) target) : Steps p.tables e below (T.setTop g) target := by
  obtain ⟨cl, Ar, hsz, hn, hf⟩ := A
  have hat : cl.slots[j.toNatClampNeg]? = some (.int (own_iv (f i))) := by
    rw [own_nat hj, (hf i hi).1]; obtain ⟨x, q⟩ := fit_I (hf i hi).2 (by simp); rw [q]; rfl
  exact X.iaload hx (by rw [eT]; exact Ar.1) (State.isArrayOf_alike hZ.alike Ar.2.1) Ar.2.2 (own_in hsz hj hi) hat hg hs hd target k
theorem own_ldJ (X : Stand p l e R s m args below meth c T locs cells slots) (hx : p.tables.exec = Jvm.exec) (hZ : Z.Warmed39 s.vm) (eT : T.heap = h) (A : own_Av Z h a .long n f) {j : Int32} {i : Nat} (hj : j.toInt = (i : Int)) (hi : i < n) {g : JFrame} (hg : g.method = m) {rest : List Value} (hs : g.stack = .int j :: .ref a :: rest) (hd : decode c.code g.pc = .ok (.laload, 1)) (target : State)
    (k : Steps p.tables e below (T.setTop { g with pc := g.pc + 1, stack := .long (own_jv (f i)) :: rest }) target) : Steps p.tables e below (T.setTop g) target := by
  obtain ⟨cl, Ar, hsz, hn, hf⟩ := A
  have hat : cl.slots[j.toNatClampNeg]? = some (.long (own_jv (f i))) := by
    rw [own_nat hj, (hf i hi).1]; obtain ⟨x, q⟩ := fit_J (hf i hi).2; rw [q]; rfl
  exact X.laload hx (by rw [eT]; exact Ar.1) (State.isArrayOf_alike hZ.alike Ar.2.1) Ar.2.2 (own_in hsz hj hi) hat hg hs hd target k
theorem own_len (X : Stand p l e R s m args below meth c T locs cells slots) (hx : p.tables.exec = Jvm.exec) (hZ : Z.Warmed39 s.vm) (eT : T.heap = h) {ty : FieldType} (A : own_Av Z h a ty n f) {z : Int32} (hz : z.toInt = (n : Int)) {g : JFrame} (hg : g.method = m) {rest : List Value} (hs : g.stack = .ref a :: rest) (hd : decode c.code g.pc = .ok (.arraylength, 1)) (target : State)
    (k : Steps p.tables e below (T.setTop { g with pc := g.pc + 1, stack := .int z :: rest }) target) : Steps p.tables e below (T.setTop g) target := by
  obtain ⟨cl, Ar, hsz, hn, hf⟩ := A
  refine X.arraylength hx (by rw [eT]; exact Ar.1) (State.isArrayOf_alike hZ.alike Ar.2.1) hg hs hd target ?_
  rw [len_of (z := z) (by rw [hsz, own_nat hz]) (own_nn hz)]; exact k
theorem own_stB (X : Stand p l e R s m args below meth c T locs cells slots) (hx : p.tables.exec = Jvm.exec) (hZ : Z.Warmed39 s.vm) (eT : T.heap = h) (A : own_Av Z h a .byte n f) {j x : Int32} {i : Nat} (hj : j.toInt = (i : Int)) (hi : i < n) {g : JFrame} (hg : g.method = m) {rest : List Value} (hs : g.stack = .int x :: .int j :: .ref a :: rest) (hd : decode c.code g.pc = .ok (.bastore, 1)) :
    ∃ T' h', Stand p l e R s m args below meth c T' (locs ++ [⟨a, i⟩]) cells slots ∧ T'.heap = h' ∧ Wr h h' a i (.int (nar .byte x)) ∧ own_Av Z h' a .byte n (own_up f i (.int (nar .byte x))) ∧ ∀ target, Steps p.tables e below (T'.setTop { g with pc := g.pc + 1, stack := rest }) target → Steps p.tables e below (T.setTop g) target := by
  obtain ⟨cl, Ar, hsz, hn, hf⟩ := A
  obtain ⟨T', h', X', e', W, st⟩ := stB X hx hZ eT Ar (own_in hsz hj hi) hg hs hd
  rw [own_nat hj] at X' W
  exact ⟨T', h', X', e', W, own_set Ar hsz hn hf W (fits_nar_byte _) hi, st⟩
theorem own_stI (X : Stand p l e R s m args below meth c T locs cells slots) (hx : p.tables.exec = Jvm.exec) (hZ : Z.Warmed39 s.vm) (eT : T.heap = h) (A : own_Av Z h a .int n f) {j x : Int32} {i : Nat} (hj : j.toInt = (i : Int)) (hi : i < n) {g : JFrame} (hg : g.method = m) {rest : List Value} (hs : g.stack = .int x :: .int j :: .ref a :: rest) (hd : decode c.code g.pc = .ok (.iastore, 1)) :
    ∃ T' h', Stand p l e R s m args below meth c T' (locs ++ [⟨a, i⟩]) cells slots ∧ T'.heap = h' ∧ Wr h h' a i (.int x) ∧ own_Av Z h' a .int n (own_up f i (.int x)) ∧ ∀ target, Steps p.tables e below (T'.setTop { g with pc := g.pc + 1, stack := rest }) target → Steps p.tables e below (T.setTop g) target := by
  obtain ⟨cl, Ar, hsz, hn, hf⟩ := A
  obtain ⟨T', h', X', e', W, st⟩ := stI X hx hZ eT Ar (own_in hsz hj hi) hg hs hd
  rw [own_nat hj] at X' W
  exact ⟨T', h', X', e', W, own_set Ar hsz hn hf W rfl hi, st⟩
theorem own_stJ (X : Stand p l e R s m args below meth c T locs cells slots) (hx : p.tables.exec = Jvm.exec) (hZ : Z.Warmed39 s.vm) (eT : T.heap = h) (A : own_Av Z h a .long n f) {j : Int32} {x : Int64} {i : Nat} (hj : j.toInt = (i : Int)) (hi : i < n) {g : JFrame} (hg : g.method = m) {rest : List Value} (hs : g.stack = .long x :: .int j :: .ref a :: rest) (hd : decode c.code g.pc = .ok (.lastore, 1)) :
    ∃ T' h', Stand p l e R s m args below meth c T' (locs ++ [⟨a, i⟩]) cells slots ∧ T'.heap = h' ∧ Wr h h' a i (.long x) ∧ own_Av Z h' a .long n (own_up f i (.long x)) ∧ ∀ target, Steps p.tables e below (T'.setTop { g with pc := g.pc + 1, stack := rest }) target → Steps p.tables e below (T.setTop g) target := by
  obtain ⟨cl, Ar, hsz, hn, hf⟩ := A
  obtain ⟨T', h', X', e', W, st⟩ := stJ X hx hZ eT Ar (own_in hsz hj hi) hg hs hd
  rw [own_nat hj] at X' W
  exact ⟨T', h', X', e', W, own_set Ar hsz hn hf W rfl hi, st⟩
end OwnArr
theorem own_three {v : Int32} (h : 0 ≤ v.toInt ∧ v.toInt < 3) : v = 0 ∨ v = 1 ∨ v = 2 := by
  have k0 : (0 : Int32).toInt = 0 := by decide
  have k1 : (1 : Int32).toInt = 1 := by decide
  have k2 : (2 : Int32).toInt = 2 := by decide
  simp only [← Int32.toInt_inj]
  omega
theorem own_off (q : Int32) : 0 ≤ ((q &&& (2147483647 : Int32)) % (3 : Int32)).toInt ∧ ((q &&& (2147483647 : Int32)) % (3 : Int32)).toInt < 3 := by
  have h1 := c_mask q (2147483647 : Int32) 31 (by decide) (by decide)
  have h2 := (c_irem (q &&& (2147483647 : Int32)) (3 : Int32) 3 (by decide)).1 (by omega)
  omega
def own_uns (x : Int32) : Int32 := (((x % (256 : Int32)) + (256 : Int32)) % (256 : Int32))
theorem own_mask (x : Int32) : (x.toInt8.toInt32 &&& (255 : Int32)) = own_uns x := by
  have k : (256 : Int32).toInt = 256 := by decide
  have h1 := c_mask x.toInt8.toInt32 (255 : Int32) 8 (by decide) (by decide)
  have h2 := c_i2b x
  have h3 := c_irem x (256 : Int32) 256 (by decide)
  have h4 := c_iadd (x % (256 : Int32)) (256 : Int32)
  have h5 := rng32 ((x % (256 : Int32)) + (256 : Int32))
  have h6 := c_irem ((x % (256 : Int32)) + (256 : Int32)) (256 : Int32) 256 (by decide)
  apply Int32.toInt_inj.mp
  rw [own_uns]
  rcases Int.lt_or_le x.toInt 0 with q | q
  · have h3' := h3.2 q
    have h6' := h6.1 (by omega)
    omega
  · have h3' := h3.1 q
    have h6' := h6.1 (by omega)
    omega

theorem own_ef2 (m : MethodId) (o0 : Addr) : entryFrame m #[(.ref o0)] 1 = mkF m 0 #[.val (.ref o0)] [] := by first | (simp [entryFrame, mkF, argsToLocals, Value.category]; done) | rfl
theorem own_pn2 : plainName "dev/sheaf/ByteReader" = true := by first | (simp [plainName, overriddenIn]; done) | decide +kernel
theorem d2_0 : decode prog_4_method_1_code 0 = .ok (.aload_n 0, 1) := by decide +kernel
theorem d2_1 : decode prog_4_method_1_code 1 = .ok (.invokespecial 1, 3) := by decide +kernel
theorem d2_4 : decode prog_4_method_1_code 4 = .ok (.return_, 1) := by decide +kernel
def own_Q2 (Z : State) (o0 : Addr) (h0 : Heap) (n0 : Nat) (v : Option Value) (h : Heap) (L : List Loc) : Prop := v = none ∧ Fr n0 L ∧ h = h0
set_option maxRecDepth 65536 in
set_option maxHeartbeats 40000000 in
theorem rm2 (l : Launch) (Z : State) (a0 : Array Value) (hw : ∀ d ∈ tables_1, d.before a0 Z = true) (ws : List Jvm.Cond) (o0 : Addr) (h0 : Heap) (n0 : Nat) (Z0 : n0 ≤ h0.size) :
    MetFree l (⟨"dev/sheaf/ByteReader", "<init>", "()V"⟩ : MethodName) (head1 (Jvm.Cond.code (⟨"dev/sheaf/ByteReader", "<init>", "()V"⟩ : MethodName) prog_4_method_1_code 1 none :: ws) ({ frames := 1, cells := 0, slots := 0, locals := 12 } : Room)) (fun a U => a = #[(.ref o0)] ∧ Z.Warmed39 U.vm ∧ U.heap = h0) (fun _ _ _ _ _ => True) (fun _ U o U' => ∃ v L, o = .returned v ∧ own_Q2 Z o0 h0 n0 v U'.heap L ∧ FrameEnd U o U' L ({ frames := 1, cells := 0, slots := 0, locals := 12 } : Room).cells ({ frames := 1, cells := 0, slots := 0, locals := 12 } : Room).slots) := by
  refine own_metfree (Q := own_Q2 Z o0 h0 n0) (plainFor_of_name own_pn2) ?_
  intro p e s m below meth c s₁ X0 hx hby hml hret hown hnm hZ e0 G go fin
  have N0 := Fr.nil n0
  refine go _ (s₁.setTop (mkF m 0 #[.val (.ref o0)] [])) (fun t k => castTop (own_ef2 m o0) k) ?_
  refine go _ (s₁.setTop (mkF m 1 #[.val (.ref o0)] [(.ref o0)])) (fun t k => XS.aloadN X0.here hx rfl (hb hby d2_0) rfl rfl k) ?_
  obtain ⟨T1, X1, e1, st1⟩ := initO X0 hx hZ hown (hw _ (List.mem_of_getElem? (i := 13) rfl)) (hw _ (List.mem_of_getElem? (i := 14) rfl)) (hw _ (List.mem_of_getElem? (i := 15) rfl)) e0 (g := (mkF m 1 #[.val (.ref o0)] [(.ref o0)])) rfl (by rw [hml]; rfl) rfl (hb hby d2_1) (by decide) (W := 0) (by show 2 * 0 + _ ≤ _; exact Nat.le_of_eq rfl) (by decide)
  refine go _ (T1.setTop (mkF m 4 #[.val (.ref o0)] [])) st1 ?_
  refine fin (none) (mkF m 4 #[.val (.ref o0)] []) X1 (fun _ => rfl) (fun fs hr => X1.returnOut hx hret (hb hby d2_4) hr) ?_ (by decide) (by decide)
  try rw [e1]
  exact ⟨rfl, N0, rfl⟩
theorem own_ef1 (m : MethodId) (o0 : Addr) (o1 : Addr) (p2 : Int32) : entryFrame m #[(.ref o0), (.ref o1), (.int p2)] 3 = mkF m 0 #[.val (.ref o0), .val (.ref o1), .val (.int p2)] [] := by first | (simp [entryFrame, mkF, argsToLocals, Value.category]; done) | rfl
theorem own_pn1 : plainName "dev/sheaf/ArrayReader" = true := by first | (simp [plainName, overriddenIn]; done) | decide +kernel
theorem d1_0 : decode prog_1_method_1_code 0 = .ok (.aload_n 0, 1) := by decide +kernel
theorem d1_1 : decode prog_1_method_1_code 1 = .ok (.invokespecial 1, 3) := by decide +kernel
theorem own_pd_0 : parseMethodDescriptor "()V" = some ⟨[], none⟩ := by decide +kernel
theorem d1_4 : decode prog_1_method_1_code 4 = .ok (.aload_n 0, 1) := by decide +kernel
theorem d1_5 : decode prog_1_method_1_code 5 = .ok (.aload_n 1, 1) := by decide +kernel
theorem d1_6 : decode prog_1_method_1_code 6 = .ok (.putfield 7, 3) := by decide +kernel
theorem d1_9 : decode prog_1_method_1_code 9 = .ok (.aload_n 0, 1) := by decide +kernel
theorem d1_10 : decode prog_1_method_1_code 10 = .ok (.iload_n 2, 1) := by decide +kernel
theorem d1_11 : decode prog_1_method_1_code 11 = .ok (.putfield 13, 3) := by decide +kernel
theorem d1_14 : decode prog_1_method_1_code 14 = .ok (.return_, 1) := by decide +kernel
def own_Q1 (Z : State) (o0 : Addr) (o1 : Addr) (p2 : Int32) (h0 : Heap) (n0 : Nat) (v : Option Value) (h : Heap) (L : List Loc) : Prop := v = none ∧ Fr n0 L ∧ Keep h0 h [o0] ∧ Exa Z h o0 "dev/sheaf/ArrayReader" ∧ Fld Z h o0 "dev/sheaf/ArrayReader" "bytes" "[B" (.ref o1) ∧ Fld Z h o0 "dev/sheaf/ArrayReader" "position" "I" (.int p2)
set_option maxRecDepth 65536 in
set_option maxHeartbeats 40000000 in
theorem rm1 (l : Launch) (Z : State) (a0 : Array Value) (hw : ∀ d ∈ tables_1, d.before a0 Z = true) (ws : List Jvm.Cond) (o0 : Addr) (o1 : Addr) (p2 : Int32) (h0 : Heap) (n0 : Nat) (Z0 : n0 ≤ h0.size) (P0 : Fld Z h0 o0 "dev/sheaf/ArrayReader" "bytes" "[B" .null) (P1 : Fld Z h0 o0 "dev/sheaf/ArrayReader" "position" "I" (.int (0 : Int32))) (PE : Exa Z h0 o0 "dev/sheaf/ArrayReader") (Pg : n0 ≤ o0) :
    MetFree l (⟨"dev/sheaf/ArrayReader", "<init>", "([BI)V"⟩ : MethodName) (head1 (Jvm.Cond.code (⟨"dev/sheaf/ArrayReader", "<init>", "([BI)V"⟩ : MethodName) prog_1_method_1_code 3 none :: ws) ({ frames := 2, cells := 0, slots := 0, locals := 24 } : Room)) (fun a U => a = #[(.ref o0), (.ref o1), (.int p2)] ∧ Z.Warmed39 U.vm ∧ U.heap = h0) (fun _ _ _ _ _ => True) (fun _ U o U' => ∃ v L, o = .returned v ∧ own_Q1 Z o0 o1 p2 h0 n0 v U'.heap L ∧ FrameEnd U o U' L ({ frames := 2, cells := 0, slots := 0, locals := 24 } : Room).cells ({ frames := 2, cells := 0, slots := 0, locals := 24 } : Room).slots) := by
  refine own_metfree (Q := own_Q1 Z o0 o1 p2 h0 n0) (plainFor_of_name own_pn1) ?_
  intro p e s m below meth c s₁ X0 hx hby hml hret hown hnm hZ e0 G go fin
  have N0 := Fr.nil n0
  refine go _ (s₁.setTop (mkF m 0 #[.val (.ref o0), .val (.ref o1), .val (.int p2)] [])) (fun t k => castTop (own_ef1 m o0 o1 p2) k) ?_
  refine go _ (s₁.setTop (mkF m 1 #[.val (.ref o0), .val (.ref o1), .val (.int p2)] [(.ref o0)])) (fun t k => XS.aloadN X0.here hx rfl (hb hby d1_0) rfl rfl k) ?_
  obtain ⟨_, _, ⟨T1, L1, k1, n1⟩, -, X1, ⟨Lc1, hQ1, l1, y1, z1⟩, st1⟩ := X0.specialBack hx (y := (⟨"dev/sheaf/ByteReader", "<init>", "()V"⟩ : MethodName)) rfl hown (mvT hZ (hw _ (List.mem_of_getElem? (i := 8) rfl))) (mvT hZ (hw _ (List.mem_of_getElem? (i := 9) rfl))) (mvT hZ (hw _ (List.mem_of_getElem? (i := 12) rfl))) (by decide) (backOf (W := 0) (rm2 l Z a0 hw [] o0 h0 n0 Z0) hZ (hw _ (List.mem_of_getElem? (i := 12) rfl)) (hw _ (List.mem_of_getElem? (i := 11) rfl)) (by decide) (by decide)) (g := (mkF m 1 #[.val (.ref o0), .val (.ref o1), .val (.int p2)] [(.ref o0)])) rfl (by rw [hml]; rfl) (Steps.refl _) (a := o0) (argsL := []) (rest := []) (lenOf own_pd_0 rfl) rfl (by show 2 * 0 + _ ≤ _; exact Nat.le_of_eq rfl) (hb hby d1_1) (fun _ _ => ⟨rfl, e0, (by decide : 0 + 0 ≤ _), (by decide : 0 + 0 ≤ _)⟩)
  dsimp only [Pt.U, Pt.locs, Pt.cells, Pt.slots] at X1 l1 y1 z1 st1 hQ1
  subst l1 y1 z1
  obtain ⟨rfl, Nq1, eq1⟩ := hQ1
  have N1 := Fr.app N0 Nq1
  refine go _ (T1.setTop (mkF m 4 #[.val (.ref o0), .val (.ref o1), .val (.int p2)] [])) (fun t k => st1.trans k) ?_
  refine go _ (T1.setTop (mkF m 5 #[.val (.ref o0), .val (.ref o1), .val (.int p2)] [(.ref o0)])) (fun t k => XS.aloadN X1.here hx rfl (hb hby d1_4) rfl rfl k) ?_
  refine go _ (T1.setTop (mkF m 6 #[.val (.ref o0), .val (.ref o1), .val (.int p2)] [(.ref o1), (.ref o0)])) (fun t k => XS.aloadN X1.here hx rfl (hb hby d1_5) rfl rfl k) ?_
  obtain ⟨T2, h2, X2, e2, W2, st2⟩ := putF X1 hx hZ hown (host := "") (Or.inl (hw _ (List.mem_of_getElem? (i := 16) rfl))) Via.refl eq1 P0 PE (Or.inr ⟨(hw _ (List.mem_of_getElem? (i := 17) rfl)), rfl, hnm⟩) (hw _ (List.mem_of_getElem? (i := 3) rfl)) (ty := (.array .byte)) (by decide) rfl rfl (g := (mkF m 6 #[.val (.ref o0), .val (.ref o1), .val (.int p2)] [(.ref o1), (.ref o0)])) rfl rfl (hb hby d1_6)
  have Fw2 : Fld Z h2 o0 "dev/sheaf/ArrayReader" "bytes" "[B" (.ref o1) := P0.same W2
  have N2 := Fr.snoc X2 N1 Pg
  refine go _ (T2.setTop (mkF m 9 #[.val (.ref o0), .val (.ref o1), .val (.int p2)] [])) st2 ?_
  refine go _ (T2.setTop (mkF m 10 #[.val (.ref o0), .val (.ref o1), .val (.int p2)] [(.ref o0)])) (fun t k => XS.aloadN X2.here hx rfl (hb hby d1_9) rfl rfl k) ?_
  refine go _ (T2.setTop (mkF m 11 #[.val (.ref o0), .val (.ref o1), .val (.int p2)] [(.int p2), (.ref o0)])) (fun t k => XS.iloadN X2.here hx rfl (hb hby d1_10) rfl k) ?_
  have F3_position_o0 : Fld Z h2 o0 "dev/sheaf/ArrayReader" "position" "I" (.int (0 : Int32)) := (P1.other W2 (Or.inr (slot_ne (Or.inl (hw _ (List.mem_of_getElem? (i := 19) rfl))) (Or.inr (hw _ (List.mem_of_getElem? (i := 17) rfl))) (by decide) (t := .int) (t' := (.array .byte)) (by decide) (by decide))))
  have E4_o0 : Exa Z h2 o0 "dev/sheaf/ArrayReader" := (PE.wr W2)
  obtain ⟨T5, h5, X5, e5, W5, st5⟩ := putF X2 hx hZ hown (host := "") (Or.inl (hw _ (List.mem_of_getElem? (i := 18) rfl))) Via.refl e2 F3_position_o0 E4_o0 (Or.inl (hw _ (List.mem_of_getElem? (i := 19) rfl))) (hw _ (List.mem_of_getElem? (i := 3) rfl)) (ty := .int) (by decide) rfl rfl (g := (mkF m 11 #[.val (.ref o0), .val (.ref o1), .val (.int p2)] [(.int p2), (.ref o0)])) rfl rfl (hb hby d1_11)
  have Fw5 : Fld Z h5 o0 "dev/sheaf/ArrayReader" "position" "I" (.int p2) := F3_position_o0.same W5
  have N5 := Fr.snoc X5 N2 Pg
  refine go _ (T5.setTop (mkF m 14 #[.val (.ref o0), .val (.ref o1), .val (.int p2)] [])) st5 ?_
  have E6_o0 : Exa Z h5 o0 "dev/sheaf/ArrayReader" := (E4_o0.wr W5)
  have F7_bytes_o0 : Fld Z h5 o0 "dev/sheaf/ArrayReader" "bytes" "[B" (.ref o1) := (Fw2.other W5 (Or.inr (slot_ne (Or.inr (hw _ (List.mem_of_getElem? (i := 17) rfl))) (Or.inl (hw _ (List.mem_of_getElem? (i := 19) rfl))) (by decide) (t := (.array .byte)) (t' := .int) (by decide) (by decide))))
  refine fin (none) (mkF m 14 #[.val (.ref o0), .val (.ref o1), .val (.int p2)] []) X5 (fun _ => rfl) (fun fs hr => X5.returnOut hx hret (hb hby d1_14) hr) ?_ (by decide) (by decide)
  try rw [e5]
  exact ⟨rfl, N5, (((Keep.refl h0 [o0]).wr W2 (Or.inl (List.mem_of_getElem? (i := 0) rfl))).wr W5 (Or.inl (List.mem_of_getElem? (i := 0) rfl))), E6_o0, F7_bytes_o0, Fw5⟩
theorem own_ef4 (m : MethodId) (p0 : Int32) : entryFrame m #[(.int p0)] 1 = mkF m 0 #[.val (.int p0)] [] := by first | (simp [entryFrame, mkF, argsToLocals, Value.category]; done) | rfl
theorem own_pn4 : plainName "dev/sheaf/ArrayReaderReadBytePinLaw" = true := by first | (simp [plainName, overriddenIn]; done) | decide +kernel
theorem d4_0 : decode method_2_code 0 = .ok (.iload_n 0, 1) := by decide +kernel
theorem d4_1 : decode method_2_code 1 = .ok (.sipush 256, 3) := by decide +kernel
theorem d4_4 : decode method_2_code 4 = .ok (.irem, 1) := by decide +kernel
theorem d4_5 : decode method_2_code 5 = .ok (.sipush 256, 3) := by decide +kernel
theorem d4_8 : decode method_2_code 8 = .ok (.iadd, 1) := by decide +kernel
theorem d4_9 : decode method_2_code 9 = .ok (.sipush 256, 3) := by decide +kernel
theorem d4_12 : decode method_2_code 12 = .ok (.irem, 1) := by decide +kernel
theorem d4_13 : decode method_2_code 13 = .ok (.ireturn, 1) := by decide +kernel
def own_Q4 (Z : State) (p0 : Int32) (h0 : Heap) (n0 : Nat) (v : Option Value) (h : Heap) (L : List Loc) : Prop := v = some (.int (own_uns p0)) ∧ Fr n0 L ∧ h = h0
set_option maxRecDepth 65536 in
set_option maxHeartbeats 40000000 in
theorem rm4 (l : Launch) (Z : State) (a0 : Array Value) (hw : ∀ d ∈ tables_1, d.before a0 Z = true) (ws : List Jvm.Cond) (p0 : Int32) (h0 : Heap) (n0 : Nat) (Z0 : n0 ≤ h0.size) :
    MetFree l (⟨"dev/sheaf/ArrayReaderReadBytePinLaw", "unsigned", "(I)I"⟩ : MethodName) (head1 (Jvm.Cond.code (⟨"dev/sheaf/ArrayReaderReadBytePinLaw", "unsigned", "(I)I"⟩ : MethodName) method_2_code 1 (some .int) :: ws) ({ frames := 0, cells := 0, slots := 0, locals := 0 } : Room)) (fun a U => a = #[(.int p0)] ∧ Z.Warmed39 U.vm ∧ U.heap = h0) (fun _ _ _ _ _ => True) (fun _ U o U' => ∃ v L, o = .returned v ∧ own_Q4 Z p0 h0 n0 v U'.heap L ∧ FrameEnd U o U' L ({ frames := 0, cells := 0, slots := 0, locals := 0 } : Room).cells ({ frames := 0, cells := 0, slots := 0, locals := 0 } : Room).slots) := by
  refine own_metfree (Q := own_Q4 Z p0 h0 n0) (plainFor_of_name own_pn4) ?_
  intro p e s m below meth c s₁ X0 hx hby hml hret hown hnm hZ e0 G go fin
  have N0 := Fr.nil n0
  refine go _ (s₁.setTop (mkF m 0 #[.val (.int p0)] [])) (fun t k => castTop (own_ef4 m p0) k) ?_
  refine go _ (s₁.setTop (mkF m 1 #[.val (.int p0)] [(.int p0)])) (fun t k => XS.iloadN X0.here hx rfl (hb hby d4_0) rfl k) ?_
  refine go _ (s₁.setTop (mkF m 4 #[.val (.int p0)] [(.int (256 : Int32)), (.int p0)])) (fun t k => XS.sipush X0.here hx rfl (hb hby d4_1) k) ?_
  refine go _ (s₁.setTop (mkF m 5 #[.val (.int p0)] [(.int (p0 % (256 : Int32)))])) (fun t k => iremM X0 hx rfl (hb hby d4_4) rfl (show (256 : Int32) ≠ 0 from by decide) k) ?_
  refine go _ (s₁.setTop (mkF m 8 #[.val (.int p0)] [(.int (256 : Int32)), (.int (p0 % (256 : Int32)))])) (fun t k => XS.sipush X0.here hx rfl (hb hby d4_5) k) ?_
  refine go _ (s₁.setTop (mkF m 9 #[.val (.int p0)] [(.int ((p0 % (256 : Int32)) + (256 : Int32)))])) (fun t k => XS.iadd X0.here hx rfl (hb hby d4_8) rfl k) ?_
  refine go _ (s₁.setTop (mkF m 12 #[.val (.int p0)] [(.int (256 : Int32)), (.int ((p0 % (256 : Int32)) + (256 : Int32)))])) (fun t k => XS.sipush X0.here hx rfl (hb hby d4_9) k) ?_
  refine go _ (s₁.setTop (mkF m 13 #[.val (.int p0)] [(.int (((p0 % (256 : Int32)) + (256 : Int32)) % (256 : Int32)))])) (fun t k => iremM X0 hx rfl (hb hby d4_12) rfl (show (256 : Int32) ≠ 0 from by decide) k) ?_
  refine fin (some (.int (((p0 % (256 : Int32)) + (256 : Int32)) % (256 : Int32)))) (mkF m 13 #[.val (.int p0)] [(.int (((p0 % (256 : Int32)) + (256 : Int32)) % (256 : Int32)))]) X0 (fun h => by cases h) (fun fs hr => retOut X0 hx (t := .int) hret rfl (Or.inl ⟨rfl, by simp, _, rfl⟩) (hb hby d4_13) hr) ?_ (by decide) (by decide)
  try rw [e0]
  exact ⟨rfl, N0, rfl⟩
theorem own_ef5 (m : MethodId) (o0 : Addr) : entryFrame m #[(.ref o0)] 1 = mkF m 0 #[.val (.ref o0)] [] := by first | (simp [entryFrame, mkF, argsToLocals, Value.category]; done) | rfl
theorem own_pn5 : plainName "dev/sheaf/ArrayReader" = true := by first | (simp [plainName, overriddenIn]; done) | decide +kernel
theorem d5_0 : decode prog_1_method_2_code 0 = .ok (.aload_n 0, 1) := by decide +kernel
theorem d5_1 : decode prog_1_method_2_code 1 = .ok (.getfield 13, 3) := by decide +kernel
theorem d5_4 : decode prog_1_method_2_code 4 = .ok (.aload_n 0, 1) := by decide +kernel
theorem d5_5 : decode prog_1_method_2_code 5 = .ok (.getfield 7, 3) := by decide +kernel
theorem d5_8 : decode prog_1_method_2_code 8 = .ok (.arraylength, 1) := by decide +kernel
theorem d5_9 : decode prog_1_method_2_code 9 = .ok (.if_icmp .ne 9, 3) := by decide +kernel
theorem d5_18 : decode prog_1_method_2_code 18 = .ok (.aload_n 0, 1) := by decide +kernel
theorem d5_19 : decode prog_1_method_2_code 19 = .ok (.getfield 7, 3) := by decide +kernel
theorem d5_22 : decode prog_1_method_2_code 22 = .ok (.aload_n 0, 1) := by decide +kernel
theorem d5_23 : decode prog_1_method_2_code 23 = .ok (.dup, 1) := by decide +kernel
theorem d5_24 : decode prog_1_method_2_code 24 = .ok (.getfield 13, 3) := by decide +kernel
theorem d5_27 : decode prog_1_method_2_code 27 = .ok (.dup_x1, 1) := by decide +kernel
theorem d5_28 : decode prog_1_method_2_code 28 = .ok (.iconst 1, 1) := by decide +kernel
theorem d5_29 : decode prog_1_method_2_code 29 = .ok (.iadd, 1) := by decide +kernel
theorem d5_30 : decode prog_1_method_2_code 30 = .ok (.putfield 13, 3) := by decide +kernel
theorem d5_33 : decode prog_1_method_2_code 33 = .ok (.baload, 1) := by decide +kernel
theorem d5_34 : decode prog_1_method_2_code 34 = .ok (.sipush 255, 3) := by decide +kernel
theorem d5_37 : decode prog_1_method_2_code 37 = .ok (.iand, 1) := by decide +kernel
theorem d5_38 : decode prog_1_method_2_code 38 = .ok (.ireturn, 1) := by decide +kernel
def own_Q5 (Z : State) (o0 : Addr) (ob : Addr) (vp : Int32) (i : Nat) (f : Nat → Value) (h0 : Heap) (n0 : Nat) (v : Option Value) (h : Heap) (L : List Loc) : Prop := v = some (.int (own_iv (f i) &&& (255 : Int32))) ∧ Fr n0 L ∧ Keep h0 h [o0] ∧ Exa Z h o0 "dev/sheaf/ArrayReader" ∧ Fld Z h o0 "dev/sheaf/ArrayReader" "bytes" "[B" (.ref ob) ∧ Fld Z h o0 "dev/sheaf/ArrayReader" "position" "I" (.int (vp + (1 : Int32)))
set_option maxRecDepth 65536 in
set_option maxHeartbeats 40000000 in
theorem rm5 (l : Launch) (Z : State) (a0 : Array Value) (hw : ∀ d ∈ tables_1, d.before a0 Z = true) (ws : List Jvm.Cond) (o0 : Addr) (ob : Addr) (vp : Int32) (i : Nat) (f : Nat → Value) (h0 : Heap) (n0 : Nat) (Z0 : n0 ≤ h0.size) (P0 : Fld Z h0 o0 "dev/sheaf/ArrayReader" "bytes" "[B" (.ref ob)) (P1 : Fld Z h0 o0 "dev/sheaf/ArrayReader" "position" "I" (.int vp)) (PE : Exa Z h0 o0 "dev/sheaf/ArrayReader") (PA : own_Av Z h0 ob .byte 3 f) (Pne : o0 ≠ ob) (Pg : n0 ≤ o0) (Pi : vp.toInt = (i : Int)) (Pl : i < 3) :
    MetFree l (⟨"dev/sheaf/ArrayReader", "readByte", "()I"⟩ : MethodName) (head1 (Jvm.Cond.code (⟨"dev/sheaf/ArrayReader", "readByte", "()I"⟩ : MethodName) prog_1_method_2_code 1 (some .int) :: ws) ({ frames := 0, cells := 0, slots := 0, locals := 0 } : Room)) (fun a U => a = #[(.ref o0)] ∧ Z.Warmed39 U.vm ∧ U.heap = h0) (fun _ _ _ _ _ => True) (fun _ U o U' => ∃ v L, o = .returned v ∧ own_Q5 Z o0 ob vp i f h0 n0 v U'.heap L ∧ FrameEnd U o U' L ({ frames := 0, cells := 0, slots := 0, locals := 0 } : Room).cells ({ frames := 0, cells := 0, slots := 0, locals := 0 } : Room).slots) := by
  refine own_metfree (Q := own_Q5 Z o0 ob vp i f h0 n0) (plainFor_of_name own_pn5) ?_
  intro p e s m below meth c s₁ X0 hx hby hml hret hown hnm hZ e0 G go fin
  have N0 := Fr.nil n0
  refine go _ (s₁.setTop (mkF m 0 #[.val (.ref o0)] [])) (fun t k => castTop (own_ef5 m o0) k) ?_
  refine go _ (s₁.setTop (mkF m 1 #[.val (.ref o0)] [(.ref o0)])) (fun t k => XS.aloadN X0.here hx rfl (hb hby d5_0) rfl rfl k) ?_
  obtain ⟨T1, X1, e1, st1⟩ := getF X0 hx hZ hown (host := "") (Or.inl (hw _ (List.mem_of_getElem? (i := 18) rfl))) Via.refl e0 P1 (g := (mkF m 1 #[.val (.ref o0)] [(.ref o0)])) rfl rfl (hb hby d5_1)
  refine go _ (T1.setTop (mkF m 4 #[.val (.ref o0)] [(.int vp)])) st1 ?_
  refine go _ (T1.setTop (mkF m 5 #[.val (.ref o0)] [(.ref o0), (.int vp)])) (fun t k => XS.aloadN X1.here hx rfl (hb hby d5_4) rfl rfl k) ?_
  obtain ⟨T2, X2, e2, st2⟩ := getF X1 hx hZ hown (host := "") (Or.inl (hw _ (List.mem_of_getElem? (i := 16) rfl))) Via.refl e1 P0 (g := (mkF m 5 #[.val (.ref o0)] [(.ref o0), (.int vp)])) rfl rfl (hb hby d5_5)
  refine go _ (T2.setTop (mkF m 8 #[.val (.ref o0)] [(.ref ob), (.int vp)])) st2 ?_
  refine go _ (T2.setTop (mkF m 9 #[.val (.ref o0)] [(.int (3 : Int32)), (.int vp)])) (fun t k => own_len X2 hx hZ e2 PA (by decide) (g := (mkF m 8 #[.val (.ref o0)] [(.ref ob), (.int vp)])) rfl rfl (hb hby d5_8) _ k) ?_
  have hc9 : ¬ (vp = (3 : Int32)) := by
    intro q
    rw [q] at Pi
    have k3 : (3 : Int32).toInt = 3 := by decide
    omega
  refine go _ (T2.setTop (mkF m 18 #[.val (.ref o0)] [])) (fun t k => XS.icmpYes X2.here hx rfl (pc0 := 9) (pc' := 18) rfl (hb hby d5_9) rfl (feq hc9).2 (by decide) (by decide) k) ?_
  refine go _ (T2.setTop (mkF m 19 #[.val (.ref o0)] [(.ref o0)])) (fun t k => XS.aloadN X2.here hx rfl (hb hby d5_18) rfl rfl k) ?_
  obtain ⟨T3, X3, e3, st3⟩ := getF X2 hx hZ hown (host := "") (Or.inl (hw _ (List.mem_of_getElem? (i := 16) rfl))) Via.refl e2 P0 (g := (mkF m 19 #[.val (.ref o0)] [(.ref o0)])) rfl rfl (hb hby d5_19)
  refine go _ (T3.setTop (mkF m 22 #[.val (.ref o0)] [(.ref ob)])) st3 ?_
  refine go _ (T3.setTop (mkF m 23 #[.val (.ref o0)] [(.ref o0), (.ref ob)])) (fun t k => XS.aloadN X3.here hx rfl (hb hby d5_22) rfl rfl k) ?_
  refine go _ (T3.setTop (mkF m 24 #[.val (.ref o0)] [(.ref o0), (.ref o0), (.ref ob)])) (fun t k => XS.dup X3.here hx rfl (hb hby d5_23) rfl rfl k) ?_
  obtain ⟨T4, X4, e4, st4⟩ := getF X3 hx hZ hown (host := "") (Or.inl (hw _ (List.mem_of_getElem? (i := 18) rfl))) Via.refl e3 P1 (g := (mkF m 24 #[.val (.ref o0)] [(.ref o0), (.ref o0), (.ref ob)])) rfl rfl (hb hby d5_24)
  refine go _ (T4.setTop (mkF m 27 #[.val (.ref o0)] [(.int vp), (.ref o0), (.ref ob)])) st4 ?_
  refine go _ (T4.setTop (mkF m 28 #[.val (.ref o0)] [(.int vp), (.ref o0), (.int vp), (.ref ob)])) (fun t k => XS.dupX1 X4.here hx rfl (hb hby d5_27) rfl rfl rfl k) ?_
  refine go _ (T4.setTop (mkF m 29 #[.val (.ref o0)] [(.int (1 : Int32)), (.int vp), (.ref o0), (.int vp), (.ref ob)])) (fun t k => XS.iconst X4.here hx rfl (hb hby d5_28) k) ?_
  refine go _ (T4.setTop (mkF m 30 #[.val (.ref o0)] [(.int (vp + (1 : Int32))), (.ref o0), (.int vp), (.ref ob)])) (fun t k => XS.iadd X4.here hx rfl (hb hby d5_29) rfl k) ?_
  obtain ⟨T5, h5, X5, e5, W5, st5⟩ := putF X4 hx hZ hown (host := "") (Or.inl (hw _ (List.mem_of_getElem? (i := 18) rfl))) Via.refl e4 P1 PE (Or.inl (hw _ (List.mem_of_getElem? (i := 19) rfl))) (hw _ (List.mem_of_getElem? (i := 3) rfl)) (ty := .int) (by decide) rfl rfl (g := (mkF m 30 #[.val (.ref o0)] [(.int (vp + (1 : Int32))), (.ref o0), (.int vp), (.ref ob)])) rfl rfl (hb hby d5_30)
  have Fw5 : Fld Z h5 o0 "dev/sheaf/ArrayReader" "position" "I" (.int (vp + (1 : Int32))) := P1.same W5
  have N5 := Fr.snoc X5 N0 Pg
  refine go _ (T5.setTop (mkF m 33 #[.val (.ref o0)] [(.int vp), (.ref ob)])) st5 ?_
  have A6_ob : own_Av Z h5 ob .byte 3 f := (PA.other W5 (Ne.symm Pne))
  refine go _ (T5.setTop (mkF m 34 #[.val (.ref o0)] [(.int (own_iv (f i)))])) (fun t k => own_ldB X5 hx hZ e5 A6_ob (i := i) Pi Pl (g := (mkF m 33 #[.val (.ref o0)] [(.int vp), (.ref ob)])) rfl rfl (hb hby d5_33) _ k) ?_
  refine go _ (T5.setTop (mkF m 37 #[.val (.ref o0)] [(.int (255 : Int32)), (.int (own_iv (f i)))])) (fun t k => XS.sipush X5.here hx rfl (hb hby d5_34) k) ?_
  refine go _ (T5.setTop (mkF m 38 #[.val (.ref o0)] [(.int ((own_iv (f i)) &&& (255 : Int32)))])) (fun t k => XS.iand X5.here hx rfl (hb hby d5_37) rfl k) ?_
  have E7_o0 : Exa Z h5 o0 "dev/sheaf/ArrayReader" := (PE.wr W5)
  have F8_bytes_o0 : Fld Z h5 o0 "dev/sheaf/ArrayReader" "bytes" "[B" (.ref ob) := (P0.other W5 (Or.inr (slot_ne (Or.inr (hw _ (List.mem_of_getElem? (i := 17) rfl))) (Or.inl (hw _ (List.mem_of_getElem? (i := 19) rfl))) (by decide) (t := (.array .byte)) (t' := .int) (by decide) (by decide))))
  refine fin (some (.int ((own_iv (f i)) &&& (255 : Int32)))) (mkF m 38 #[.val (.ref o0)] [(.int ((own_iv (f i)) &&& (255 : Int32)))]) X5 (fun h => by cases h) (fun fs hr => retOut X5 hx (t := .int) hret rfl (Or.inl ⟨rfl, by simp, _, rfl⟩) (hb hby d5_38) hr) ?_ (by decide) (by decide)
  try rw [e5]
  exact ⟨rfl, N5, ((Keep.refl h0 [o0]).wr W5 (Or.inl (List.mem_of_getElem? (i := 0) rfl))), E7_o0, F8_bytes_o0, Fw5⟩
theorem own_ef0 (m : MethodId) (p0 : Int32) (p1 : Int32) (p2 : Int32) (p3 : Int32) : entryFrame m #[(.int p0), (.int p1), (.int p2), (.int p3)] maxLocals = mkF m 0 #[.val (.int p0), .val (.int p1), .val (.int p2), .val (.int p3), .unset, .unset, .unset, .unset, .unset, .unset, .unset, .unset, .unset] [] := by first | (simp [entryFrame, mkF, argsToLocals, Value.category, maxLocals]; done) | rfl
theorem own_pn0 : plainName "dev/sheaf/ArrayReaderReadBytePinLaw" = true := by first | (simp [plainName, overriddenIn]; done) | decide +kernel
theorem own_pd_1 : parseMethodDescriptor "([BI)V" = some ⟨[(.array .byte), .int], none⟩ := by decide +kernel
theorem own_pd_2 : parseMethodDescriptor "(I)I" = some ⟨[.int], some .int⟩ := by decide +kernel
theorem own_pd_3 : parseMethodDescriptor "()I" = some ⟨[], some .int⟩ := by decide +kernel
def own_Q0 (Z : State) (p0 : Int32) (p1 : Int32) (p2 : Int32) (p3 : Int32) (h0 : Heap) (n0 : Nat) (v : Option Value) (h : Heap) (L : List Loc) : Prop := v = some (.int 1) ∧ Fr n0 L
set_option maxRecDepth 65536 in
set_option maxHeartbeats 40000000 in
theorem rm0 (l : Launch) (Z : State) (a0 : Array Value) (hw : ∀ d ∈ tables_1, d.before a0 Z = true) (ws : List Jvm.Cond) (p0 : Int32) (p1 : Int32) (p2 : Int32) (p3 : Int32) (h0 : Heap) (n0 : Nat) (Z0 : n0 ≤ h0.size) :
    MetFree l x (head1 (Jvm.Cond.code x code maxLocals ret :: ws) room_1) (fun a U => a = #[(.int p0), (.int p1), (.int p2), (.int p3)] ∧ Z.Warmed39 U.vm ∧ U.heap = h0) (fun _ _ _ _ _ => True) (fun _ U o U' => ∃ v L, o = .returned v ∧ own_Q0 Z p0 p1 p2 p3 h0 n0 v U'.heap L ∧ FrameEnd U o U' L room_1.cells room_1.slots) := by
  refine own_metfree (Q := own_Q0 Z p0 p1 p2 p3 h0 n0) (plainFor_of_name own_pn0) ?_
  intro p e s m below meth c s₁ X0 hx hby hml hret hown hnm hZ e0 G go fin
  have N0 := Fr.nil n0
  refine go _ (s₁.setTop (mkF m 0 #[.val (.int p0), .val (.int p1), .val (.int p2), .val (.int p3), .unset, .unset, .unset, .unset, .unset, .unset, .unset, .unset, .unset] [])) (fun t k => castTop (own_ef0 m p0 p1 p2 p3) k) ?_
  refine go _ (s₁.setTop (mkF m 1 #[.val (.int p0), .val (.int p1), .val (.int p2), .val (.int p3), .unset, .unset, .unset, .unset, .unset, .unset, .unset, .unset, .unset] [(.int (3 : Int32))])) (fun t k => XS.iconst X0.here hx rfl (hb hby at_0) k) ?_
  obtain ⟨T1, h1, kk1, X1, e1, E1, Ar1, Ax1, st1⟩ := newPE X0 hx hZ (hw _ (List.mem_of_getElem? (i := 0) rfl)) e0 (g := (mkF m 1 #[.val (.int p0), .val (.int p1), .val (.int p2), .val (.int p3), .unset, .unset, .unset, .unset, .unset, .unset, .unset, .unset, .unset] [(.int (3 : Int32))])) rfl (hb hby at_1) rfl (by decide) (cap := 3) (by decide) (by decide) (by decide) (by decide) (ad := "[B") (by first | rfl | decide)
  obtain ⟨b1, gb1⟩ : ∃ z, z = h0.size := ⟨_, rfl⟩
  rw [← gb1] at Ar1 Ax1 st1
  have g_b1 : n0 ≤ b1 := Nat.le_trans Z0 (Nat.le_of_eq gb1.symm)
  have sz_b1 : h0.size ≤ b1 := (Nat.le_of_eq gb1.symm)
  have Av1 : own_Av Z h1 b1 .byte 3 (fun _ => (.int 0)) := own_Av.new Ar1 (by decide) (by decide)
  refine go _ (T1.setTop (mkF m 3 #[.val (.int p0), .val (.int p1), .val (.int p2), .val (.int p3), .unset, .unset, .unset, .unset, .unset, .unset, .unset, .unset, .unset] [(.ref b1)])) st1 ?_
  refine go _ (T1.setTop (mkF m 4 #[.val (.int p0), .val (.int p1), .val (.int p2), .val (.int p3), .unset, .unset, .unset, .unset, .unset, .unset, .unset, .unset, .unset] [(.ref b1), (.ref b1)])) (fun t k => XS.dup X1.here hx rfl (hb hby at_3) rfl rfl k) ?_
  refine go _ (T1.setTop (mkF m 5 #[.val (.int p0), .val (.int p1), .val (.int p2), .val (.int p3), .unset, .unset, .unset, .unset, .unset, .unset, .unset, .unset, .unset] [(.int (0 : Int32)), (.ref b1), (.ref b1)])) (fun t k => XS.iconst X1.here hx rfl (hb hby at_4) k) ?_
  refine go _ (T1.setTop (mkF m 6 #[.val (.int p0), .val (.int p1), .val (.int p2), .val (.int p3), .unset, .unset, .unset, .unset, .unset, .unset, .unset, .unset, .unset] [(.int p0), (.int (0 : Int32)), (.ref b1), (.ref b1)])) (fun t k => XS.iloadN X1.here hx rfl (hb hby at_5) rfl k) ?_
  refine go _ (T1.setTop (mkF m 7 #[.val (.int p0), .val (.int p1), .val (.int p2), .val (.int p3), .unset, .unset, .unset, .unset, .unset, .unset, .unset, .unset, .unset] [(.int (p0.toInt8.toInt32)), (.int (0 : Int32)), (.ref b1), (.ref b1)])) (fun t k => XS.i2b X1.here hx rfl (hb hby at_6) rfl k) ?_
  obtain ⟨T2, h2, X2, e2, W2, Av2, st2⟩ := own_stB X1 hx hZ e1 Av1 (i := 0) (by decide) (by decide) (g := (mkF m 7 #[.val (.int p0), .val (.int p1), .val (.int p2), .val (.int p3), .unset, .unset, .unset, .unset, .unset, .unset, .unset, .unset, .unset] [(.int (p0.toInt8.toInt32)), (.int (0 : Int32)), (.ref b1), (.ref b1)])) rfl rfl (hb hby at_7)
  rw [own_nar8] at Av2
  have N2 := Fr.snoc X2 N0 g_b1
  refine go _ (T2.setTop (mkF m 8 #[.val (.int p0), .val (.int p1), .val (.int p2), .val (.int p3), .unset, .unset, .unset, .unset, .unset, .unset, .unset, .unset, .unset] [(.ref b1)])) st2 ?_
  refine go _ (T2.setTop (mkF m 9 #[.val (.int p0), .val (.int p1), .val (.int p2), .val (.int p3), .unset, .unset, .unset, .unset, .unset, .unset, .unset, .unset, .unset] [(.ref b1), (.ref b1)])) (fun t k => XS.dup X2.here hx rfl (hb hby at_8) rfl rfl k) ?_
  refine go _ (T2.setTop (mkF m 10 #[.val (.int p0), .val (.int p1), .val (.int p2), .val (.int p3), .unset, .unset, .unset, .unset, .unset, .unset, .unset, .unset, .unset] [(.int (1 : Int32)), (.ref b1), (.ref b1)])) (fun t k => XS.iconst X2.here hx rfl (hb hby at_9) k) ?_
  refine go _ (T2.setTop (mkF m 11 #[.val (.int p0), .val (.int p1), .val (.int p2), .val (.int p3), .unset, .unset, .unset, .unset, .unset, .unset, .unset, .unset, .unset] [(.int p1), (.int (1 : Int32)), (.ref b1), (.ref b1)])) (fun t k => XS.iloadN X2.here hx rfl (hb hby at_10) rfl k) ?_
  refine go _ (T2.setTop (mkF m 12 #[.val (.int p0), .val (.int p1), .val (.int p2), .val (.int p3), .unset, .unset, .unset, .unset, .unset, .unset, .unset, .unset, .unset] [(.int (p1.toInt8.toInt32)), (.int (1 : Int32)), (.ref b1), (.ref b1)])) (fun t k => XS.i2b X2.here hx rfl (hb hby at_11) rfl k) ?_
  obtain ⟨T3, h3, X3, e3, W3, Av3, st3⟩ := own_stB X2 hx hZ e2 Av2 (i := 1) (by decide) (by decide) (g := (mkF m 12 #[.val (.int p0), .val (.int p1), .val (.int p2), .val (.int p3), .unset, .unset, .unset, .unset, .unset, .unset, .unset, .unset, .unset] [(.int (p1.toInt8.toInt32)), (.int (1 : Int32)), (.ref b1), (.ref b1)])) rfl rfl (hb hby at_12)
  rw [own_nar8] at Av3
  have N3 := Fr.snoc X3 N2 g_b1
  refine go _ (T3.setTop (mkF m 13 #[.val (.int p0), .val (.int p1), .val (.int p2), .val (.int p3), .unset, .unset, .unset, .unset, .unset, .unset, .unset, .unset, .unset] [(.ref b1)])) st3 ?_
  refine go _ (T3.setTop (mkF m 14 #[.val (.int p0), .val (.int p1), .val (.int p2), .val (.int p3), .unset, .unset, .unset, .unset, .unset, .unset, .unset, .unset, .unset] [(.ref b1), (.ref b1)])) (fun t k => XS.dup X3.here hx rfl (hb hby at_13) rfl rfl k) ?_
  refine go _ (T3.setTop (mkF m 15 #[.val (.int p0), .val (.int p1), .val (.int p2), .val (.int p3), .unset, .unset, .unset, .unset, .unset, .unset, .unset, .unset, .unset] [(.int (2 : Int32)), (.ref b1), (.ref b1)])) (fun t k => XS.iconst X3.here hx rfl (hb hby at_14) k) ?_
  refine go _ (T3.setTop (mkF m 16 #[.val (.int p0), .val (.int p1), .val (.int p2), .val (.int p3), .unset, .unset, .unset, .unset, .unset, .unset, .unset, .unset, .unset] [(.int p2), (.int (2 : Int32)), (.ref b1), (.ref b1)])) (fun t k => XS.iloadN X3.here hx rfl (hb hby at_15) rfl k) ?_
  refine go _ (T3.setTop (mkF m 17 #[.val (.int p0), .val (.int p1), .val (.int p2), .val (.int p3), .unset, .unset, .unset, .unset, .unset, .unset, .unset, .unset, .unset] [(.int (p2.toInt8.toInt32)), (.int (2 : Int32)), (.ref b1), (.ref b1)])) (fun t k => XS.i2b X3.here hx rfl (hb hby at_16) rfl k) ?_
  obtain ⟨T4, h4, X4, e4, W4, Av4, st4⟩ := own_stB X3 hx hZ e3 Av3 (i := 2) (by decide) (by decide) (g := (mkF m 17 #[.val (.int p0), .val (.int p1), .val (.int p2), .val (.int p3), .unset, .unset, .unset, .unset, .unset, .unset, .unset, .unset, .unset] [(.int (p2.toInt8.toInt32)), (.int (2 : Int32)), (.ref b1), (.ref b1)])) rfl rfl (hb hby at_17)
  rw [own_nar8] at Av4
  have N4 := Fr.snoc X4 N3 g_b1
  refine go _ (T4.setTop (mkF m 18 #[.val (.int p0), .val (.int p1), .val (.int p2), .val (.int p3), .unset, .unset, .unset, .unset, .unset, .unset, .unset, .unset, .unset] [(.ref b1)])) st4 ?_
  refine go _ (T4.setTop (mkF m 20 #[.val (.int p0), .val (.int p1), .val (.int p2), .val (.int p3), .val (.ref b1), .unset, .unset, .unset, .unset, .unset, .unset, .unset, .unset] [])) (fun t k => XS.astore X4.here hx rfl (hb hby at_18) rfl rfl (l' := #[.val (.int p0), .val (.int p1), .val (.int p2), .val (.int p3), .val (.ref b1), .unset, .unset, .unset, .unset, .unset, .unset, .unset, .unset]) rfl k) ?_
  refine go _ (T4.setTop (mkF m 21 #[.val (.int p0), .val (.int p1), .val (.int p2), .val (.int p3), .val (.ref b1), .unset, .unset, .unset, .unset, .unset, .unset, .unset, .unset] [(.int p3)])) (fun t k => XS.iloadN X4.here hx rfl (hb hby at_20) rfl k) ?_
  refine go _ (T4.setTop (mkF m 23 #[.val (.int p0), .val (.int p1), .val (.int p2), .val (.int p3), .val (.ref b1), .unset, .unset, .unset, .unset, .unset, .unset, .unset, .unset] [(.int (2147483647 : Int32)), (.int p3)])) (fun t k => X4.ldcInt hx hown (mvT hZ (hw _ (List.mem_of_getElem? (i := 1) rfl))) (g := (mkF m 21 #[.val (.int p0), .val (.int p1), .val (.int p2), .val (.int p3), .val (.ref b1), .unset, .unset, .unset, .unset, .unset, .unset, .unset, .unset] [(.int p3)])) rfl (hb hby at_21) _ k) ?_
  refine go _ (T4.setTop (mkF m 24 #[.val (.int p0), .val (.int p1), .val (.int p2), .val (.int p3), .val (.ref b1), .unset, .unset, .unset, .unset, .unset, .unset, .unset, .unset] [(.int (p3 &&& (2147483647 : Int32)))])) (fun t k => XS.iand X4.here hx rfl (hb hby at_23) rfl k) ?_
  refine go _ (T4.setTop (mkF m 25 #[.val (.int p0), .val (.int p1), .val (.int p2), .val (.int p3), .val (.ref b1), .unset, .unset, .unset, .unset, .unset, .unset, .unset, .unset] [(.int (3 : Int32)), (.int (p3 &&& (2147483647 : Int32)))])) (fun t k => XS.iconst X4.here hx rfl (hb hby at_24) k) ?_
  refine go _ (T4.setTop (mkF m 26 #[.val (.int p0), .val (.int p1), .val (.int p2), .val (.int p3), .val (.ref b1), .unset, .unset, .unset, .unset, .unset, .unset, .unset, .unset] [(.int ((p3 &&& (2147483647 : Int32)) % (3 : Int32)))])) (fun t k => iremM X4 hx rfl (hb hby at_25) rfl (show (3 : Int32) ≠ 0 from by decide) k) ?_
  generalize hv_vo : ((p3 &&& (2147483647 : Int32)) % (3 : Int32)) = vo
  have ho := own_off p3
  rw [hv_vo] at ho
  refine go _ (T4.setTop (mkF m 28 #[.val (.int p0), .val (.int p1), .val (.int p2), .val (.int p3), .val (.ref b1), .val (.int vo), .unset, .unset, .unset, .unset, .unset, .unset, .unset] [])) (fun t k => XS.istore X4.here hx rfl (hb hby at_26) rfl (l' := #[.val (.int p0), .val (.int p1), .val (.int p2), .val (.int p3), .val (.ref b1), .val (.int vo), .unset, .unset, .unset, .unset, .unset, .unset, .unset]) rfl k) ?_
  rcases own_three ho with rfl | rfl | rfl
  · have Z6z : n0 ≤ h4.size := (Nat.le_trans (Nat.le_trans (Nat.le_trans (Nat.le_trans Z0 E1.1) (Keep.of_wr W2).1) (Keep.of_wr W3).1) (Keep.of_wr W4).1)
    obtain ⟨T5, h5, X5, e5, E5, Ax5, D5, -, st5⟩ := newO X4 hx hZ hown (hw _ (List.mem_of_getElem? (i := 2) rfl)) (hw _ (List.mem_of_getElem? (i := 3) rfl)) (hw _ (List.mem_of_getElem? (i := 4) rfl)) e4 (g := (mkF m 28 #[.val (.int p0), .val (.int p1), .val (.int p2), .val (.int p3), .val (.ref b1), .val (.int (0 : Int32)), .unset, .unset, .unset, .unset, .unset, .unset, .unset] [])) rfl (hb hby at_28) (by decide) (by decide)
    obtain ⟨b5, gb5⟩ : ∃ z, z = h4.size := ⟨_, rfl⟩
    rw [← gb5] at Ax5 D5 st5
    have E7_b1 : Exa Z h4 b1 "[B" := (((Ax1.wr W2).wr W3).wr W4)
    have ne8_b1_b5 : b1 ≠ b5 := Nat.ne_of_lt (Nat.lt_of_lt_of_le E7_b1.lt (Nat.le_of_eq gb5.symm))
    have g_b5 : n0 ≤ b5 := Nat.le_trans Z6z (Nat.le_of_eq gb5.symm)
    have S9s : h0.size ≤ h4.size ∧ True := ⟨(Nat.le_trans (Nat.le_trans (Nat.le_trans E1.1 (Keep.of_wr W2).1) (Keep.of_wr W3).1) (Keep.of_wr W4).1), trivial⟩
    have sz_b5 : h0.size ≤ b5 := (Nat.le_trans S9s.1 (Nat.le_of_eq gb5.symm))
    have F_bytes_b5 : Fld Z h5 b5 "dev/sheaf/ArrayReader" "bytes" "[B" .null := D5 (Or.inr (hw _ (List.mem_of_getElem? (i := 17) rfl))) (ty := (.array .byte)) (by decide)
    have F_position_b5 : Fld Z h5 b5 "dev/sheaf/ArrayReader" "position" "I" (.int (0 : Int32)) := D5 (Or.inl (hw _ (List.mem_of_getElem? (i := 19) rfl))) (ty := .int) (by decide)
    refine go _ (T5.setTop (mkF m 31 #[.val (.int p0), .val (.int p1), .val (.int p2), .val (.int p3), .val (.ref b1), .val (.int (0 : Int32)), .unset, .unset, .unset, .unset, .unset, .unset, .unset] [(.ref b5)])) st5 ?_
    refine go _ (T5.setTop (mkF m 32 #[.val (.int p0), .val (.int p1), .val (.int p2), .val (.int p3), .val (.ref b1), .val (.int (0 : Int32)), .unset, .unset, .unset, .unset, .unset, .unset, .unset] [(.ref b5), (.ref b5)])) (fun t k => XS.dup X5.here hx rfl (hb hby at_31) rfl rfl k) ?_
    refine go _ (T5.setTop (mkF m 34 #[.val (.int p0), .val (.int p1), .val (.int p2), .val (.int p3), .val (.ref b1), .val (.int (0 : Int32)), .unset, .unset, .unset, .unset, .unset, .unset, .unset] [(.ref b1), (.ref b5), (.ref b5)])) (fun t k => XS.aload X5.here hx rfl (hb hby at_32) rfl rfl k) ?_
    refine go _ (T5.setTop (mkF m 36 #[.val (.int p0), .val (.int p1), .val (.int p2), .val (.int p3), .val (.ref b1), .val (.int (0 : Int32)), .unset, .unset, .unset, .unset, .unset, .unset, .unset] [(.int (0 : Int32)), (.ref b1), (.ref b5), (.ref b5)])) (fun t k => XS.iload X5.here hx rfl (hb hby at_34) rfl k) ?_
    have Z10z : n0 ≤ h5.size := (Nat.le_trans Z6z E5.1)
    obtain ⟨_, _, ⟨T11, L11, k11, n11⟩, -, X11, ⟨Lc11, hQ11, l11, y11, z11⟩, st11⟩ := X5.specialBack hx (y := (⟨"dev/sheaf/ArrayReader", "<init>", "([BI)V"⟩ : MethodName)) rfl hown (mvT hZ (hw _ (List.mem_of_getElem? (i := 5) rfl))) (mvT hZ (hw _ (List.mem_of_getElem? (i := 6) rfl))) (mvT hZ (hw _ (List.mem_of_getElem? (i := 7) rfl))) (by decide) (backOf (W := 1) (rm1 l Z a0 hw [] b5 b1 (0 : Int32) h5 n0 Z10z F_bytes_b5 F_position_b5 Ax5 g_b5) hZ (hw _ (List.mem_of_getElem? (i := 7) rfl)) (hw _ (List.mem_of_getElem? (i := 4) rfl)) (by decide) (by decide)) (g := (mkF m 36 #[.val (.int p0), .val (.int p1), .val (.int p2), .val (.int p3), .val (.ref b1), .val (.int (0 : Int32)), .unset, .unset, .unset, .unset, .unset, .unset, .unset] [(.int (0 : Int32)), (.ref b1), (.ref b5), (.ref b5)])) rfl (by rw [hml]; rfl) (Steps.refl _) (a := b5) (argsL := [(.ref b1), (.int (0 : Int32))]) (rest := [(.ref b5)]) (lenOf own_pd_1 rfl) rfl (by show 2 * 0 + _ ≤ _; exact Nat.le_of_eq rfl) (hb hby at_36) (fun _ _ => ⟨rfl, e5, (by decide : 2 + 0 ≤ _), (by decide : 5 + 0 ≤ _)⟩)
    dsimp only [Pt.U, Pt.locs, Pt.cells, Pt.slots] at X11 l11 y11 z11 st11 hQ11
    subst l11 y11 z11
    obtain ⟨rfl, Nq11, K11, Ex11, Fa11_0, Fa11_1⟩ := hQ11
    have N11 := Fr.app N4 Nq11
    refine go _ (T11.setTop (mkF m 39 #[.val (.int p0), .val (.int p1), .val (.int p2), .val (.int p3), .val (.ref b1), .val (.int (0 : Int32)), .unset, .unset, .unset, .unset, .unset, .unset, .unset] [(.ref b5)])) (fun t k => st11.trans k) ?_
    refine go _ (T11.setTop (mkF m 41 #[.val (.int p0), .val (.int p1), .val (.int p2), .val (.int p3), .val (.ref b1), .val (.int (0 : Int32)), .val (.ref b5), .unset, .unset, .unset, .unset, .unset, .unset] [])) (fun t k => XS.astore X11.here hx rfl (hb hby at_39) rfl rfl (l' := #[.val (.int p0), .val (.int p1), .val (.int p2), .val (.int p3), .val (.ref b1), .val (.int (0 : Int32)), .val (.ref b5), .unset, .unset, .unset, .unset, .unset, .unset]) rfl k) ?_
    refine go _ (T11.setTop (mkF m 42 #[.val (.int p0), .val (.int p1), .val (.int p2), .val (.int p3), .val (.ref b1), .val (.int (0 : Int32)), .val (.ref b5), .unset, .unset, .unset, .unset, .unset, .unset] [(.int p0)])) (fun t k => XS.iloadN X11.here hx rfl (hb hby at_41) rfl k) ?_
    have Z12z : n0 ≤ T11.heap.size := (Nat.le_trans Z10z K11.1)
    obtain ⟨_, _, ⟨T13, L13, k13, n13⟩, -, X13, ⟨Lc13, hQ13, l13, y13, z13⟩, st13⟩ := Jvm.LawKit.callS X11 hx (y := (⟨"dev/sheaf/ArrayReaderReadBytePinLaw", "unsigned", "(I)I"⟩ : MethodName)) hown (mvT hZ (hw _ (List.mem_of_getElem? (i := 20) rfl))) (mvT hZ (hw _ (List.mem_of_getElem? (i := 21) rfl))) (mvT hZ (hw _ (List.mem_of_getElem? (i := 22) rfl))) (mvT hZ (hw _ (List.mem_of_getElem? (i := 23) rfl))) (by decide) (backOf (W := 0) (rm4 l Z a0 hw [] p0 T11.heap n0 Z12z) hZ (hw _ (List.mem_of_getElem? (i := 23) rfl)) (hw _ (List.mem_of_getElem? (i := 22) rfl)) (by decide) (by decide)) (g := (mkF m 42 #[.val (.int p0), .val (.int p1), .val (.int p2), .val (.int p3), .val (.ref b1), .val (.int (0 : Int32)), .val (.ref b5), .unset, .unset, .unset, .unset, .unset, .unset] [(.int p0)])) rfl (by rw [hml]; rfl) (argsL := [(.int p0)]) (rest := []) (lenOf own_pd_2 rfl) rfl (by show 2 * 0 + _ ≤ _; exact Nat.le_of_eq rfl) (hb hby at_42) (fun _ _ => ⟨rfl, rfl, (by decide : 2 + 0 ≤ _), (by decide : 5 + 0 ≤ _)⟩)
    dsimp only [Pt.U, Pt.locs, Pt.cells, Pt.slots] at X13 l13 y13 z13 st13 hQ13
    subst l13 y13 z13
    obtain ⟨rfl, Nq13, eq13⟩ := hQ13
    have N13 := Fr.app N11 Nq13
    refine go _ (T13.setTop (mkF m 45 #[.val (.int p0), .val (.int p1), .val (.int p2), .val (.int p3), .val (.ref b1), .val (.int (0 : Int32)), .val (.ref b5), .unset, .unset, .unset, .unset, .unset, .unset] [(.int (own_uns p0))])) st13 ?_
    refine go _ (T13.setTop (mkF m 47 #[.val (.int p0), .val (.int p1), .val (.int p2), .val (.int p3), .val (.ref b1), .val (.int (0 : Int32)), .val (.ref b5), .val (.int (own_uns p0)), .unset, .unset, .unset, .unset, .unset] [])) (fun t k => XS.istore X13.here hx rfl (hb hby at_45) rfl (l' := #[.val (.int p0), .val (.int p1), .val (.int p2), .val (.int p3), .val (.ref b1), .val (.int (0 : Int32)), .val (.ref b5), .val (.int (own_uns p0)), .unset, .unset, .unset, .unset, .unset]) rfl k) ?_
    refine go _ (T13.setTop (mkF m 48 #[.val (.int p0), .val (.int p1), .val (.int p2), .val (.int p3), .val (.ref b1), .val (.int (0 : Int32)), .val (.ref b5), .val (.int (own_uns p0)), .unset, .unset, .unset, .unset, .unset] [(.int p1)])) (fun t k => XS.iloadN X13.here hx rfl (hb hby at_47) rfl k) ?_
    obtain ⟨_, _, ⟨T14, L14, k14, n14⟩, -, X14, ⟨Lc14, hQ14, l14, y14, z14⟩, st14⟩ := Jvm.LawKit.callS X13 hx (y := (⟨"dev/sheaf/ArrayReaderReadBytePinLaw", "unsigned", "(I)I"⟩ : MethodName)) hown (mvT hZ (hw _ (List.mem_of_getElem? (i := 20) rfl))) (mvT hZ (hw _ (List.mem_of_getElem? (i := 21) rfl))) (mvT hZ (hw _ (List.mem_of_getElem? (i := 22) rfl))) (mvT hZ (hw _ (List.mem_of_getElem? (i := 23) rfl))) (by decide) (backOf (W := 0) (rm4 l Z a0 hw [] p1 T11.heap n0 Z12z) hZ (hw _ (List.mem_of_getElem? (i := 23) rfl)) (hw _ (List.mem_of_getElem? (i := 22) rfl)) (by decide) (by decide)) (g := (mkF m 48 #[.val (.int p0), .val (.int p1), .val (.int p2), .val (.int p3), .val (.ref b1), .val (.int (0 : Int32)), .val (.ref b5), .val (.int (own_uns p0)), .unset, .unset, .unset, .unset, .unset] [(.int p1)])) rfl (by rw [hml]; rfl) (argsL := [(.int p1)]) (rest := []) (lenOf own_pd_2 rfl) rfl (by show 2 * 0 + _ ≤ _; exact Nat.le_of_eq rfl) (hb hby at_48) (fun _ _ => ⟨rfl, eq13, (by decide : 2 + 0 ≤ _), (by decide : 5 + 0 ≤ _)⟩)
    dsimp only [Pt.U, Pt.locs, Pt.cells, Pt.slots] at X14 l14 y14 z14 st14 hQ14
    subst l14 y14 z14
    obtain ⟨rfl, Nq14, eq14⟩ := hQ14
    have N14 := Fr.app N13 Nq14
    refine go _ (T14.setTop (mkF m 51 #[.val (.int p0), .val (.int p1), .val (.int p2), .val (.int p3), .val (.ref b1), .val (.int (0 : Int32)), .val (.ref b5), .val (.int (own_uns p0)), .unset, .unset, .unset, .unset, .unset] [(.int (own_uns p1))])) st14 ?_
    refine go _ (T14.setTop (mkF m 53 #[.val (.int p0), .val (.int p1), .val (.int p2), .val (.int p3), .val (.ref b1), .val (.int (0 : Int32)), .val (.ref b5), .val (.int (own_uns p0)), .val (.int (own_uns p1)), .unset, .unset, .unset, .unset] [])) (fun t k => XS.istore X14.here hx rfl (hb hby at_51) rfl (l' := #[.val (.int p0), .val (.int p1), .val (.int p2), .val (.int p3), .val (.ref b1), .val (.int (0 : Int32)), .val (.ref b5), .val (.int (own_uns p0)), .val (.int (own_uns p1)), .unset, .unset, .unset, .unset]) rfl k) ?_
    refine go _ (T14.setTop (mkF m 54 #[.val (.int p0), .val (.int p1), .val (.int p2), .val (.int p3), .val (.ref b1), .val (.int (0 : Int32)), .val (.ref b5), .val (.int (own_uns p0)), .val (.int (own_uns p1)), .unset, .unset, .unset, .unset] [(.int p2)])) (fun t k => XS.iloadN X14.here hx rfl (hb hby at_53) rfl k) ?_
    obtain ⟨_, _, ⟨T15, L15, k15, n15⟩, -, X15, ⟨Lc15, hQ15, l15, y15, z15⟩, st15⟩ := Jvm.LawKit.callS X14 hx (y := (⟨"dev/sheaf/ArrayReaderReadBytePinLaw", "unsigned", "(I)I"⟩ : MethodName)) hown (mvT hZ (hw _ (List.mem_of_getElem? (i := 20) rfl))) (mvT hZ (hw _ (List.mem_of_getElem? (i := 21) rfl))) (mvT hZ (hw _ (List.mem_of_getElem? (i := 22) rfl))) (mvT hZ (hw _ (List.mem_of_getElem? (i := 23) rfl))) (by decide) (backOf (W := 0) (rm4 l Z a0 hw [] p2 T11.heap n0 Z12z) hZ (hw _ (List.mem_of_getElem? (i := 23) rfl)) (hw _ (List.mem_of_getElem? (i := 22) rfl)) (by decide) (by decide)) (g := (mkF m 54 #[.val (.int p0), .val (.int p1), .val (.int p2), .val (.int p3), .val (.ref b1), .val (.int (0 : Int32)), .val (.ref b5), .val (.int (own_uns p0)), .val (.int (own_uns p1)), .unset, .unset, .unset, .unset] [(.int p2)])) rfl (by rw [hml]; rfl) (argsL := [(.int p2)]) (rest := []) (lenOf own_pd_2 rfl) rfl (by show 2 * 0 + _ ≤ _; exact Nat.le_of_eq rfl) (hb hby at_54) (fun _ _ => ⟨rfl, eq14, (by decide : 2 + 0 ≤ _), (by decide : 5 + 0 ≤ _)⟩)
    dsimp only [Pt.U, Pt.locs, Pt.cells, Pt.slots] at X15 l15 y15 z15 st15 hQ15
    subst l15 y15 z15
    obtain ⟨rfl, Nq15, eq15⟩ := hQ15
    have N15 := Fr.app N14 Nq15
    refine go _ (T15.setTop (mkF m 57 #[.val (.int p0), .val (.int p1), .val (.int p2), .val (.int p3), .val (.ref b1), .val (.int (0 : Int32)), .val (.ref b5), .val (.int (own_uns p0)), .val (.int (own_uns p1)), .unset, .unset, .unset, .unset] [(.int (own_uns p2))])) st15 ?_
    refine go _ (T15.setTop (mkF m 59 #[.val (.int p0), .val (.int p1), .val (.int p2), .val (.int p3), .val (.ref b1), .val (.int (0 : Int32)), .val (.ref b5), .val (.int (own_uns p0)), .val (.int (own_uns p1)), .val (.int (own_uns p2)), .unset, .unset, .unset] [])) (fun t k => XS.istore X15.here hx rfl (hb hby at_57) rfl (l' := #[.val (.int p0), .val (.int p1), .val (.int p2), .val (.int p3), .val (.ref b1), .val (.int (0 : Int32)), .val (.ref b5), .val (.int (own_uns p0)), .val (.int (own_uns p1)), .val (.int (own_uns p2)), .unset, .unset, .unset]) rfl k) ?_
    refine go _ (T15.setTop (mkF m 61 #[.val (.int p0), .val (.int p1), .val (.int p2), .val (.int p3), .val (.ref b1), .val (.int (0 : Int32)), .val (.ref b5), .val (.int (own_uns p0)), .val (.int (own_uns p1)), .val (.int (own_uns p2)), .unset, .unset, .unset] [(.ref b5)])) (fun t k => XS.aload X15.here hx rfl (hb hby at_59) rfl rfl k) ?_
    have A16_b1 : own_Av Z T11.heap b1 .byte 3 (own_up (own_up (own_up (fun _ => (.int 0)) 0 (.int (p0.toInt8.toInt32))) 1 (.int (p1.toInt8.toInt32))) 2 (.int (p2.toInt8.toInt32))) := ((Av4.ext E5).keep K11 (ninS ne8_b1_b5 nin0))
    obtain ⟨cq17, kq17, q17a, q17b, q17c⟩ := isOf hZ eq15 Ex11
    obtain ⟨_, _, ⟨T17, L17, k17, n17⟩, -, X17, ⟨Lc17, hQ17, l17, y17, z17⟩, st17⟩ := X15.virtualBack hx (y := (⟨"dev/sheaf/ArrayReader", "readByte", "()I"⟩ : MethodName)) (z := (⟨"dev/sheaf/ArrayReader", "readByte", "()I"⟩ : MethodName)) hown (mvT hZ (hw _ (List.mem_of_getElem? (i := 24) rfl))) (mvT hZ (hw _ (List.mem_of_getElem? (i := 25) rfl))) (notFace_of_selects (args := #[]) (mvT hZ (hw _ (List.mem_of_getElem? (i := 27) rfl)))) (mvT hZ (hw _ (List.mem_of_getElem? (i := 27) rfl))) (mvT hZ (hw _ (List.mem_of_getElem? (i := 26) rfl))) (by decide) (backOf (W := 0) (rm5 l Z a0 hw [] b5 b1 (0 : Int32) 0 (own_up (own_up (own_up (fun _ => (.int 0)) 0 (.int (p0.toInt8.toInt32))) 1 (.int (p1.toInt8.toInt32))) 2 (.int (p2.toInt8.toInt32))) T11.heap n0 Z12z Fa11_0 Fa11_1 Ex11 A16_b1 (Ne.symm ne8_b1_b5) g_b5 (by decide) (by decide)) hZ (hw _ (List.mem_of_getElem? (i := 28) rfl)) (hw _ (List.mem_of_getElem? (i := 4) rfl)) (by decide) (by decide)) q17a q17c (g := (mkF m 61 #[.val (.int p0), .val (.int p1), .val (.int p2), .val (.int p3), .val (.ref b1), .val (.int (0 : Int32)), .val (.ref b5), .val (.int (own_uns p0)), .val (.int (own_uns p1)), .val (.int (own_uns p2)), .unset, .unset, .unset] [(.ref b5)])) rfl (by rw [hml]; rfl) (Steps.refl _) (argsL := []) (rest := []) (lenOf own_pd_3 rfl) rfl (by show 2 * 0 + _ ≤ _; exact Nat.le_of_eq rfl) (hb hby at_61) (fun _ _ => ⟨rfl, eq15, (by decide : 2 + 0 ≤ _), (by decide : 5 + 0 ≤ _)⟩)
    dsimp only [Pt.U, Pt.locs, Pt.cells, Pt.slots] at X17 l17 y17 z17 st17 hQ17
    subst l17 y17 z17
    obtain ⟨rfl, Nq17, K17, Ex17, Fb17, Fp17⟩ := hQ17
    have N17 := Fr.app N15 Nq17
    refine go _ (T17.setTop (mkF m 64 #[.val (.int p0), .val (.int p1), .val (.int p2), .val (.int p3), .val (.ref b1), .val (.int (0 : Int32)), .val (.ref b5), .val (.int (own_uns p0)), .val (.int (own_uns p1)), .val (.int (own_uns p2)), .unset, .unset, .unset] [(.int ((p0.toInt8.toInt32) &&& (255 : Int32)))])) (fun t k => st17.trans k) ?_
    refine go _ (T17.setTop (mkF m 66 #[.val (.int p0), .val (.int p1), .val (.int p2), .val (.int p3), .val (.ref b1), .val (.int (0 : Int32)), .val (.ref b5), .val (.int (own_uns p0)), .val (.int (own_uns p1)), .val (.int (own_uns p2)), .val (.int ((p0.toInt8.toInt32) &&& (255 : Int32))), .unset, .unset] [])) (fun t k => XS.istore X17.here hx rfl (hb hby at_64) rfl (l' := #[.val (.int p0), .val (.int p1), .val (.int p2), .val (.int p3), .val (.ref b1), .val (.int (0 : Int32)), .val (.ref b5), .val (.int (own_uns p0)), .val (.int (own_uns p1)), .val (.int (own_uns p2)), .val (.int ((p0.toInt8.toInt32) &&& (255 : Int32))), .unset, .unset]) rfl k) ?_
    refine go _ (T17.setTop (mkF m 68 #[.val (.int p0), .val (.int p1), .val (.int p2), .val (.int p3), .val (.ref b1), .val (.int (0 : Int32)), .val (.ref b5), .val (.int (own_uns p0)), .val (.int (own_uns p1)), .val (.int (own_uns p2)), .val (.int ((p0.toInt8.toInt32) &&& (255 : Int32))), .unset, .unset] [(.int (0 : Int32))])) (fun t k => XS.iload X17.here hx rfl (hb hby at_66) rfl k) ?_
    refine go _ (T17.setTop (mkF m 69 #[.val (.int p0), .val (.int p1), .val (.int p2), .val (.int p3), .val (.ref b1), .val (.int (0 : Int32)), .val (.ref b5), .val (.int (own_uns p0)), .val (.int (own_uns p1)), .val (.int (own_uns p2)), .val (.int ((p0.toInt8.toInt32) &&& (255 : Int32))), .unset, .unset] [(.int (2 : Int32)), (.int (0 : Int32))])) (fun t k => XS.iconst X17.here hx rfl (hb hby at_68) k) ?_
    have hc69 : ¬ ((0 : Int32) = (2 : Int32)) := by decide
    refine go _ (T17.setTop (mkF m 85 #[.val (.int p0), .val (.int p1), .val (.int p2), .val (.int p3), .val (.ref b1), .val (.int (0 : Int32)), .val (.ref b5), .val (.int (own_uns p0)), .val (.int (own_uns p1)), .val (.int (own_uns p2)), .val (.int ((p0.toInt8.toInt32) &&& (255 : Int32))), .unset, .unset] [])) (fun t k => XS.icmpYes X17.here hx rfl (pc0 := 69) (pc' := 85) rfl (hb hby at_69) rfl (feq hc69).2 (by decide) (by decide) k) ?_
    refine go _ (T17.setTop (mkF m 87 #[.val (.int p0), .val (.int p1), .val (.int p2), .val (.int p3), .val (.ref b1), .val (.int (0 : Int32)), .val (.ref b5), .val (.int (own_uns p0)), .val (.int (own_uns p1)), .val (.int (own_uns p2)), .val (.int ((p0.toInt8.toInt32) &&& (255 : Int32))), .unset, .unset] [(.ref b5)])) (fun t k => XS.aload X17.here hx rfl (hb hby at_85) rfl rfl k) ?_
    have A18_b1 : own_Av Z T17.heap b1 .byte 3 (own_up (own_up (own_up (fun _ => (.int 0)) 0 (.int (p0.toInt8.toInt32))) 1 (.int (p1.toInt8.toInt32))) 2 (.int (p2.toInt8.toInt32))) := (A16_b1.keep K17 (ninS ne8_b1_b5 nin0))
    have Z19z : n0 ≤ T17.heap.size := (Nat.le_trans Z12z K17.1)
    obtain ⟨cq20, kq20, q20a, q20b, q20c⟩ := isOf hZ rfl Ex17
    obtain ⟨_, _, ⟨T20, L20, k20, n20⟩, -, X20, ⟨Lc20, hQ20, l20, y20, z20⟩, st20⟩ := X17.virtualBack hx (y := (⟨"dev/sheaf/ArrayReader", "readByte", "()I"⟩ : MethodName)) (z := (⟨"dev/sheaf/ArrayReader", "readByte", "()I"⟩ : MethodName)) hown (mvT hZ (hw _ (List.mem_of_getElem? (i := 24) rfl))) (mvT hZ (hw _ (List.mem_of_getElem? (i := 25) rfl))) (notFace_of_selects (args := #[]) (mvT hZ (hw _ (List.mem_of_getElem? (i := 27) rfl)))) (mvT hZ (hw _ (List.mem_of_getElem? (i := 27) rfl))) (mvT hZ (hw _ (List.mem_of_getElem? (i := 26) rfl))) (by decide) (backOf (W := 0) (rm5 l Z a0 hw [] b5 b1 ((0 : Int32) + (1 : Int32)) 1 (own_up (own_up (own_up (fun _ => (.int 0)) 0 (.int (p0.toInt8.toInt32))) 1 (.int (p1.toInt8.toInt32))) 2 (.int (p2.toInt8.toInt32))) T17.heap n0 Z19z Fb17 Fp17 Ex17 A18_b1 (Ne.symm ne8_b1_b5) g_b5 (by decide) (by decide)) hZ (hw _ (List.mem_of_getElem? (i := 28) rfl)) (hw _ (List.mem_of_getElem? (i := 4) rfl)) (by decide) (by decide)) q20a q20c (g := (mkF m 87 #[.val (.int p0), .val (.int p1), .val (.int p2), .val (.int p3), .val (.ref b1), .val (.int (0 : Int32)), .val (.ref b5), .val (.int (own_uns p0)), .val (.int (own_uns p1)), .val (.int (own_uns p2)), .val (.int ((p0.toInt8.toInt32) &&& (255 : Int32))), .unset, .unset] [(.ref b5)])) rfl (by rw [hml]; rfl) (Steps.refl _) (argsL := []) (rest := []) (lenOf own_pd_3 rfl) rfl (by show 2 * 0 + _ ≤ _; exact Nat.le_of_eq rfl) (hb hby at_87) (fun _ _ => ⟨rfl, rfl, (by decide : 2 + 0 ≤ _), (by decide : 5 + 0 ≤ _)⟩)
    dsimp only [Pt.U, Pt.locs, Pt.cells, Pt.slots] at X20 l20 y20 z20 st20 hQ20
    subst l20 y20 z20
    obtain ⟨rfl, Nq20, K20, Ex20, Fb20, Fp20⟩ := hQ20
    have N20 := Fr.app N17 Nq20
    refine go _ (T20.setTop (mkF m 90 #[.val (.int p0), .val (.int p1), .val (.int p2), .val (.int p3), .val (.ref b1), .val (.int (0 : Int32)), .val (.ref b5), .val (.int (own_uns p0)), .val (.int (own_uns p1)), .val (.int (own_uns p2)), .val (.int ((p0.toInt8.toInt32) &&& (255 : Int32))), .unset, .unset] [(.int ((p1.toInt8.toInt32) &&& (255 : Int32)))])) (fun t k => st20.trans k) ?_
    refine go _ (T20.setTop (mkF m 92 #[.val (.int p0), .val (.int p1), .val (.int p2), .val (.int p3), .val (.ref b1), .val (.int (0 : Int32)), .val (.ref b5), .val (.int (own_uns p0)), .val (.int (own_uns p1)), .val (.int (own_uns p2)), .val (.int ((p0.toInt8.toInt32) &&& (255 : Int32))), .val (.int ((p1.toInt8.toInt32) &&& (255 : Int32))), .unset] [])) (fun t k => XS.istore X20.here hx rfl (hb hby at_90) rfl (l' := #[.val (.int p0), .val (.int p1), .val (.int p2), .val (.int p3), .val (.ref b1), .val (.int (0 : Int32)), .val (.ref b5), .val (.int (own_uns p0)), .val (.int (own_uns p1)), .val (.int (own_uns p2)), .val (.int ((p0.toInt8.toInt32) &&& (255 : Int32))), .val (.int ((p1.toInt8.toInt32) &&& (255 : Int32))), .unset]) rfl k) ?_
    refine go _ (T20.setTop (mkF m 94 #[.val (.int p0), .val (.int p1), .val (.int p2), .val (.int p3), .val (.ref b1), .val (.int (0 : Int32)), .val (.ref b5), .val (.int (own_uns p0)), .val (.int (own_uns p1)), .val (.int (own_uns p2)), .val (.int ((p0.toInt8.toInt32) &&& (255 : Int32))), .val (.int ((p1.toInt8.toInt32) &&& (255 : Int32))), .unset] [(.int (0 : Int32))])) (fun t k => XS.iload X20.here hx rfl (hb hby at_92) rfl k) ?_
    refine go _ (T20.setTop (mkF m 95 #[.val (.int p0), .val (.int p1), .val (.int p2), .val (.int p3), .val (.ref b1), .val (.int (0 : Int32)), .val (.ref b5), .val (.int (own_uns p0)), .val (.int (own_uns p1)), .val (.int (own_uns p2)), .val (.int ((p0.toInt8.toInt32) &&& (255 : Int32))), .val (.int ((p1.toInt8.toInt32) &&& (255 : Int32))), .unset] [(.int (1 : Int32)), (.int (0 : Int32))])) (fun t k => XS.iconst X20.here hx rfl (hb hby at_94) k) ?_
    have hc95 : ¬ ((0 : Int32) = (1 : Int32)) := by decide
    refine go _ (T20.setTop (mkF m 118 #[.val (.int p0), .val (.int p1), .val (.int p2), .val (.int p3), .val (.ref b1), .val (.int (0 : Int32)), .val (.ref b5), .val (.int (own_uns p0)), .val (.int (own_uns p1)), .val (.int (own_uns p2)), .val (.int ((p0.toInt8.toInt32) &&& (255 : Int32))), .val (.int ((p1.toInt8.toInt32) &&& (255 : Int32))), .unset] [])) (fun t k => XS.icmpYes X20.here hx rfl (pc0 := 95) (pc' := 118) rfl (hb hby at_95) rfl (feq hc95).2 (by decide) (by decide) k) ?_
    refine go _ (T20.setTop (mkF m 120 #[.val (.int p0), .val (.int p1), .val (.int p2), .val (.int p3), .val (.ref b1), .val (.int (0 : Int32)), .val (.ref b5), .val (.int (own_uns p0)), .val (.int (own_uns p1)), .val (.int (own_uns p2)), .val (.int ((p0.toInt8.toInt32) &&& (255 : Int32))), .val (.int ((p1.toInt8.toInt32) &&& (255 : Int32))), .unset] [(.ref b5)])) (fun t k => XS.aload X20.here hx rfl (hb hby at_118) rfl rfl k) ?_
    have A21_b1 : own_Av Z T20.heap b1 .byte 3 (own_up (own_up (own_up (fun _ => (.int 0)) 0 (.int (p0.toInt8.toInt32))) 1 (.int (p1.toInt8.toInt32))) 2 (.int (p2.toInt8.toInt32))) := (A18_b1.keep K20 (ninS ne8_b1_b5 nin0))
    have Z22z : n0 ≤ T20.heap.size := (Nat.le_trans Z19z K20.1)
    obtain ⟨cq23, kq23, q23a, q23b, q23c⟩ := isOf hZ rfl Ex20
    obtain ⟨_, _, ⟨T23, L23, k23, n23⟩, -, X23, ⟨Lc23, hQ23, l23, y23, z23⟩, st23⟩ := X20.virtualBack hx (y := (⟨"dev/sheaf/ArrayReader", "readByte", "()I"⟩ : MethodName)) (z := (⟨"dev/sheaf/ArrayReader", "readByte", "()I"⟩ : MethodName)) hown (mvT hZ (hw _ (List.mem_of_getElem? (i := 24) rfl))) (mvT hZ (hw _ (List.mem_of_getElem? (i := 25) rfl))) (notFace_of_selects (args := #[]) (mvT hZ (hw _ (List.mem_of_getElem? (i := 27) rfl)))) (mvT hZ (hw _ (List.mem_of_getElem? (i := 27) rfl))) (mvT hZ (hw _ (List.mem_of_getElem? (i := 26) rfl))) (by decide) (backOf (W := 0) (rm5 l Z a0 hw [] b5 b1 (((0 : Int32) + (1 : Int32)) + (1 : Int32)) 2 (own_up (own_up (own_up (fun _ => (.int 0)) 0 (.int (p0.toInt8.toInt32))) 1 (.int (p1.toInt8.toInt32))) 2 (.int (p2.toInt8.toInt32))) T20.heap n0 Z22z Fb20 Fp20 Ex20 A21_b1 (Ne.symm ne8_b1_b5) g_b5 (by decide) (by decide)) hZ (hw _ (List.mem_of_getElem? (i := 28) rfl)) (hw _ (List.mem_of_getElem? (i := 4) rfl)) (by decide) (by decide)) q23a q23c (g := (mkF m 120 #[.val (.int p0), .val (.int p1), .val (.int p2), .val (.int p3), .val (.ref b1), .val (.int (0 : Int32)), .val (.ref b5), .val (.int (own_uns p0)), .val (.int (own_uns p1)), .val (.int (own_uns p2)), .val (.int ((p0.toInt8.toInt32) &&& (255 : Int32))), .val (.int ((p1.toInt8.toInt32) &&& (255 : Int32))), .unset] [(.ref b5)])) rfl (by rw [hml]; rfl) (Steps.refl _) (argsL := []) (rest := []) (lenOf own_pd_3 rfl) rfl (by show 2 * 0 + _ ≤ _; exact Nat.le_of_eq rfl) (hb hby at_120) (fun _ _ => ⟨rfl, rfl, (by decide : 2 + 0 ≤ _), (by decide : 5 + 0 ≤ _)⟩)
    dsimp only [Pt.U, Pt.locs, Pt.cells, Pt.slots] at X23 l23 y23 z23 st23 hQ23
    subst l23 y23 z23
    obtain ⟨rfl, Nq23, K23, Ex23, Fb23, Fp23⟩ := hQ23
    have N23 := Fr.app N20 Nq23
    refine go _ (T23.setTop (mkF m 123 #[.val (.int p0), .val (.int p1), .val (.int p2), .val (.int p3), .val (.ref b1), .val (.int (0 : Int32)), .val (.ref b5), .val (.int (own_uns p0)), .val (.int (own_uns p1)), .val (.int (own_uns p2)), .val (.int ((p0.toInt8.toInt32) &&& (255 : Int32))), .val (.int ((p1.toInt8.toInt32) &&& (255 : Int32))), .unset] [(.int ((p2.toInt8.toInt32) &&& (255 : Int32)))])) (fun t k => st23.trans k) ?_
    refine go _ (T23.setTop (mkF m 125 #[.val (.int p0), .val (.int p1), .val (.int p2), .val (.int p3), .val (.ref b1), .val (.int (0 : Int32)), .val (.ref b5), .val (.int (own_uns p0)), .val (.int (own_uns p1)), .val (.int (own_uns p2)), .val (.int ((p0.toInt8.toInt32) &&& (255 : Int32))), .val (.int ((p1.toInt8.toInt32) &&& (255 : Int32))), .val (.int ((p2.toInt8.toInt32) &&& (255 : Int32)))] [])) (fun t k => XS.istore X23.here hx rfl (hb hby at_123) rfl (l' := #[.val (.int p0), .val (.int p1), .val (.int p2), .val (.int p3), .val (.ref b1), .val (.int (0 : Int32)), .val (.ref b5), .val (.int (own_uns p0)), .val (.int (own_uns p1)), .val (.int (own_uns p2)), .val (.int ((p0.toInt8.toInt32) &&& (255 : Int32))), .val (.int ((p1.toInt8.toInt32) &&& (255 : Int32))), .val (.int ((p2.toInt8.toInt32) &&& (255 : Int32)))]) rfl k) ?_
    refine go _ (T23.setTop (mkF m 127 #[.val (.int p0), .val (.int p1), .val (.int p2), .val (.int p3), .val (.ref b1), .val (.int (0 : Int32)), .val (.ref b5), .val (.int (own_uns p0)), .val (.int (own_uns p1)), .val (.int (own_uns p2)), .val (.int ((p0.toInt8.toInt32) &&& (255 : Int32))), .val (.int ((p1.toInt8.toInt32) &&& (255 : Int32))), .val (.int ((p2.toInt8.toInt32) &&& (255 : Int32)))] [(.int ((p0.toInt8.toInt32) &&& (255 : Int32)))])) (fun t k => XS.iload X23.here hx rfl (hb hby at_125) rfl k) ?_
    refine go _ (T23.setTop (mkF m 129 #[.val (.int p0), .val (.int p1), .val (.int p2), .val (.int p3), .val (.ref b1), .val (.int (0 : Int32)), .val (.ref b5), .val (.int (own_uns p0)), .val (.int (own_uns p1)), .val (.int (own_uns p2)), .val (.int ((p0.toInt8.toInt32) &&& (255 : Int32))), .val (.int ((p1.toInt8.toInt32) &&& (255 : Int32))), .val (.int ((p2.toInt8.toInt32) &&& (255 : Int32)))] [(.int (own_uns p0)), (.int ((p0.toInt8.toInt32) &&& (255 : Int32)))])) (fun t k => XS.iload X23.here hx rfl (hb hby at_127) rfl k) ?_
    have hc129 : ((p0.toInt8.toInt32) &&& (255 : Int32)) = (own_uns p0) := by exact own_mask _
    refine go _ (T23.setTop (mkF m 132 #[.val (.int p0), .val (.int p1), .val (.int p2), .val (.int p3), .val (.ref b1), .val (.int (0 : Int32)), .val (.ref b5), .val (.int (own_uns p0)), .val (.int (own_uns p1)), .val (.int (own_uns p2)), .val (.int ((p0.toInt8.toInt32) &&& (255 : Int32))), .val (.int ((p1.toInt8.toInt32) &&& (255 : Int32))), .val (.int ((p2.toInt8.toInt32) &&& (255 : Int32)))] [])) (fun t k => XS.icmpNo X23.here hx rfl (hb hby at_129) rfl (teq hc129).2 k) ?_
    refine go _ (T23.setTop (mkF m 134 #[.val (.int p0), .val (.int p1), .val (.int p2), .val (.int p3), .val (.ref b1), .val (.int (0 : Int32)), .val (.ref b5), .val (.int (own_uns p0)), .val (.int (own_uns p1)), .val (.int (own_uns p2)), .val (.int ((p0.toInt8.toInt32) &&& (255 : Int32))), .val (.int ((p1.toInt8.toInt32) &&& (255 : Int32))), .val (.int ((p2.toInt8.toInt32) &&& (255 : Int32)))] [(.int ((p1.toInt8.toInt32) &&& (255 : Int32)))])) (fun t k => XS.iload X23.here hx rfl (hb hby at_132) rfl k) ?_
    refine go _ (T23.setTop (mkF m 136 #[.val (.int p0), .val (.int p1), .val (.int p2), .val (.int p3), .val (.ref b1), .val (.int (0 : Int32)), .val (.ref b5), .val (.int (own_uns p0)), .val (.int (own_uns p1)), .val (.int (own_uns p2)), .val (.int ((p0.toInt8.toInt32) &&& (255 : Int32))), .val (.int ((p1.toInt8.toInt32) &&& (255 : Int32))), .val (.int ((p2.toInt8.toInt32) &&& (255 : Int32)))] [(.int (own_uns p1)), (.int ((p1.toInt8.toInt32) &&& (255 : Int32)))])) (fun t k => XS.iload X23.here hx rfl (hb hby at_134) rfl k) ?_
    have hc136 : ((p1.toInt8.toInt32) &&& (255 : Int32)) = (own_uns p1) := by exact own_mask _
    refine go _ (T23.setTop (mkF m 139 #[.val (.int p0), .val (.int p1), .val (.int p2), .val (.int p3), .val (.ref b1), .val (.int (0 : Int32)), .val (.ref b5), .val (.int (own_uns p0)), .val (.int (own_uns p1)), .val (.int (own_uns p2)), .val (.int ((p0.toInt8.toInt32) &&& (255 : Int32))), .val (.int ((p1.toInt8.toInt32) &&& (255 : Int32))), .val (.int ((p2.toInt8.toInt32) &&& (255 : Int32)))] [])) (fun t k => XS.icmpNo X23.here hx rfl (hb hby at_136) rfl (teq hc136).2 k) ?_
    refine go _ (T23.setTop (mkF m 141 #[.val (.int p0), .val (.int p1), .val (.int p2), .val (.int p3), .val (.ref b1), .val (.int (0 : Int32)), .val (.ref b5), .val (.int (own_uns p0)), .val (.int (own_uns p1)), .val (.int (own_uns p2)), .val (.int ((p0.toInt8.toInt32) &&& (255 : Int32))), .val (.int ((p1.toInt8.toInt32) &&& (255 : Int32))), .val (.int ((p2.toInt8.toInt32) &&& (255 : Int32)))] [(.int ((p2.toInt8.toInt32) &&& (255 : Int32)))])) (fun t k => XS.iload X23.here hx rfl (hb hby at_139) rfl k) ?_
    refine go _ (T23.setTop (mkF m 143 #[.val (.int p0), .val (.int p1), .val (.int p2), .val (.int p3), .val (.ref b1), .val (.int (0 : Int32)), .val (.ref b5), .val (.int (own_uns p0)), .val (.int (own_uns p1)), .val (.int (own_uns p2)), .val (.int ((p0.toInt8.toInt32) &&& (255 : Int32))), .val (.int ((p1.toInt8.toInt32) &&& (255 : Int32))), .val (.int ((p2.toInt8.toInt32) &&& (255 : Int32)))] [(.int (own_uns p2)), (.int ((p2.toInt8.toInt32) &&& (255 : Int32)))])) (fun t k => XS.iload X23.here hx rfl (hb hby at_141) rfl k) ?_
    have hc143 : ((p2.toInt8.toInt32) &&& (255 : Int32)) = (own_uns p2) := by exact own_mask _
    refine go _ (T23.setTop (mkF m 146 #[.val (.int p0), .val (.int p1), .val (.int p2), .val (.int p3), .val (.ref b1), .val (.int (0 : Int32)), .val (.ref b5), .val (.int (own_uns p0)), .val (.int (own_uns p1)), .val (.int (own_uns p2)), .val (.int ((p0.toInt8.toInt32) &&& (255 : Int32))), .val (.int ((p1.toInt8.toInt32) &&& (255 : Int32))), .val (.int ((p2.toInt8.toInt32) &&& (255 : Int32)))] [])) (fun t k => XS.icmpNo X23.here hx rfl (hb hby at_143) rfl (teq hc143).2 k) ?_
    refine go _ (T23.setTop (mkF m 147 #[.val (.int p0), .val (.int p1), .val (.int p2), .val (.int p3), .val (.ref b1), .val (.int (0 : Int32)), .val (.ref b5), .val (.int (own_uns p0)), .val (.int (own_uns p1)), .val (.int (own_uns p2)), .val (.int ((p0.toInt8.toInt32) &&& (255 : Int32))), .val (.int ((p1.toInt8.toInt32) &&& (255 : Int32))), .val (.int ((p2.toInt8.toInt32) &&& (255 : Int32)))] [(.int (1 : Int32))])) (fun t k => XS.iconst X23.here hx rfl (hb hby at_146) k) ?_
    refine go _ (T23.setTop (mkF m 151 #[.val (.int p0), .val (.int p1), .val (.int p2), .val (.int p3), .val (.ref b1), .val (.int (0 : Int32)), .val (.ref b5), .val (.int (own_uns p0)), .val (.int (own_uns p1)), .val (.int (own_uns p2)), .val (.int ((p0.toInt8.toInt32) &&& (255 : Int32))), .val (.int ((p1.toInt8.toInt32) &&& (255 : Int32))), .val (.int ((p2.toInt8.toInt32) &&& (255 : Int32)))] [(.int (1 : Int32))])) (fun t k => XS.goto X23.here hx rfl (pc0 := 147) (pc' := 151) rfl (hb hby at_147) (by decide) (by decide) k) ?_
    refine fin (some (.int (1 : Int32))) (mkF m 151 #[.val (.int p0), .val (.int p1), .val (.int p2), .val (.int p3), .val (.ref b1), .val (.int (0 : Int32)), .val (.ref b5), .val (.int (own_uns p0)), .val (.int (own_uns p1)), .val (.int (own_uns p2)), .val (.int ((p0.toInt8.toInt32) &&& (255 : Int32))), .val (.int ((p1.toInt8.toInt32) &&& (255 : Int32))), .val (.int ((p2.toInt8.toInt32) &&& (255 : Int32)))] [(.int (1 : Int32))]) X23 (fun h => by cases h) (fun fs hr => retOut X23 hx (t := .boolean) hret rfl (Or.inl ⟨rfl, by simp, _, rfl⟩) (hb hby at_151) hr) ?_ (by decide) (by decide)
    exact ⟨rfl, N23⟩
  · have Z25z : n0 ≤ h4.size := (Nat.le_trans (Nat.le_trans (Nat.le_trans (Nat.le_trans Z0 E1.1) (Keep.of_wr W2).1) (Keep.of_wr W3).1) (Keep.of_wr W4).1)
    obtain ⟨T24, h24, X24, e24, E24, Ax24, D24, -, st24⟩ := newO X4 hx hZ hown (hw _ (List.mem_of_getElem? (i := 2) rfl)) (hw _ (List.mem_of_getElem? (i := 3) rfl)) (hw _ (List.mem_of_getElem? (i := 4) rfl)) e4 (g := (mkF m 28 #[.val (.int p0), .val (.int p1), .val (.int p2), .val (.int p3), .val (.ref b1), .val (.int (1 : Int32)), .unset, .unset, .unset, .unset, .unset, .unset, .unset] [])) rfl (hb hby at_28) (by decide) (by decide)
    obtain ⟨b24, gb24⟩ : ∃ z, z = h4.size := ⟨_, rfl⟩
    rw [← gb24] at Ax24 D24 st24
    have E26_b1 : Exa Z h4 b1 "[B" := (((Ax1.wr W2).wr W3).wr W4)
    have ne27_b1_b24 : b1 ≠ b24 := Nat.ne_of_lt (Nat.lt_of_lt_of_le E26_b1.lt (Nat.le_of_eq gb24.symm))
    have g_b24 : n0 ≤ b24 := Nat.le_trans Z25z (Nat.le_of_eq gb24.symm)
    have S28s : h0.size ≤ h4.size ∧ True := ⟨(Nat.le_trans (Nat.le_trans (Nat.le_trans E1.1 (Keep.of_wr W2).1) (Keep.of_wr W3).1) (Keep.of_wr W4).1), trivial⟩
    have sz_b24 : h0.size ≤ b24 := (Nat.le_trans S28s.1 (Nat.le_of_eq gb24.symm))
    have F_bytes_b24 : Fld Z h24 b24 "dev/sheaf/ArrayReader" "bytes" "[B" .null := D24 (Or.inr (hw _ (List.mem_of_getElem? (i := 17) rfl))) (ty := (.array .byte)) (by decide)
    have F_position_b24 : Fld Z h24 b24 "dev/sheaf/ArrayReader" "position" "I" (.int (0 : Int32)) := D24 (Or.inl (hw _ (List.mem_of_getElem? (i := 19) rfl))) (ty := .int) (by decide)
    refine go _ (T24.setTop (mkF m 31 #[.val (.int p0), .val (.int p1), .val (.int p2), .val (.int p3), .val (.ref b1), .val (.int (1 : Int32)), .unset, .unset, .unset, .unset, .unset, .unset, .unset] [(.ref b24)])) st24 ?_
    refine go _ (T24.setTop (mkF m 32 #[.val (.int p0), .val (.int p1), .val (.int p2), .val (.int p3), .val (.ref b1), .val (.int (1 : Int32)), .unset, .unset, .unset, .unset, .unset, .unset, .unset] [(.ref b24), (.ref b24)])) (fun t k => XS.dup X24.here hx rfl (hb hby at_31) rfl rfl k) ?_
    refine go _ (T24.setTop (mkF m 34 #[.val (.int p0), .val (.int p1), .val (.int p2), .val (.int p3), .val (.ref b1), .val (.int (1 : Int32)), .unset, .unset, .unset, .unset, .unset, .unset, .unset] [(.ref b1), (.ref b24), (.ref b24)])) (fun t k => XS.aload X24.here hx rfl (hb hby at_32) rfl rfl k) ?_
    refine go _ (T24.setTop (mkF m 36 #[.val (.int p0), .val (.int p1), .val (.int p2), .val (.int p3), .val (.ref b1), .val (.int (1 : Int32)), .unset, .unset, .unset, .unset, .unset, .unset, .unset] [(.int (1 : Int32)), (.ref b1), (.ref b24), (.ref b24)])) (fun t k => XS.iload X24.here hx rfl (hb hby at_34) rfl k) ?_
    have Z29z : n0 ≤ h24.size := (Nat.le_trans Z25z E24.1)
    obtain ⟨_, _, ⟨T30, L30, k30, n30⟩, -, X30, ⟨Lc30, hQ30, l30, y30, z30⟩, st30⟩ := X24.specialBack hx (y := (⟨"dev/sheaf/ArrayReader", "<init>", "([BI)V"⟩ : MethodName)) rfl hown (mvT hZ (hw _ (List.mem_of_getElem? (i := 5) rfl))) (mvT hZ (hw _ (List.mem_of_getElem? (i := 6) rfl))) (mvT hZ (hw _ (List.mem_of_getElem? (i := 7) rfl))) (by decide) (backOf (W := 1) (rm1 l Z a0 hw [] b24 b1 (1 : Int32) h24 n0 Z29z F_bytes_b24 F_position_b24 Ax24 g_b24) hZ (hw _ (List.mem_of_getElem? (i := 7) rfl)) (hw _ (List.mem_of_getElem? (i := 4) rfl)) (by decide) (by decide)) (g := (mkF m 36 #[.val (.int p0), .val (.int p1), .val (.int p2), .val (.int p3), .val (.ref b1), .val (.int (1 : Int32)), .unset, .unset, .unset, .unset, .unset, .unset, .unset] [(.int (1 : Int32)), (.ref b1), (.ref b24), (.ref b24)])) rfl (by rw [hml]; rfl) (Steps.refl _) (a := b24) (argsL := [(.ref b1), (.int (1 : Int32))]) (rest := [(.ref b24)]) (lenOf own_pd_1 rfl) rfl (by show 2 * 0 + _ ≤ _; exact Nat.le_of_eq rfl) (hb hby at_36) (fun _ _ => ⟨rfl, e24, (by decide : 2 + 0 ≤ _), (by decide : 5 + 0 ≤ _)⟩)
    dsimp only [Pt.U, Pt.locs, Pt.cells, Pt.slots] at X30 l30 y30 z30 st30 hQ30
    subst l30 y30 z30
    obtain ⟨rfl, Nq30, K30, Ex30, Fa30_0, Fa30_1⟩ := hQ30
    have N30 := Fr.app N4 Nq30
    refine go _ (T30.setTop (mkF m 39 #[.val (.int p0), .val (.int p1), .val (.int p2), .val (.int p3), .val (.ref b1), .val (.int (1 : Int32)), .unset, .unset, .unset, .unset, .unset, .unset, .unset] [(.ref b24)])) (fun t k => st30.trans k) ?_
    refine go _ (T30.setTop (mkF m 41 #[.val (.int p0), .val (.int p1), .val (.int p2), .val (.int p3), .val (.ref b1), .val (.int (1 : Int32)), .val (.ref b24), .unset, .unset, .unset, .unset, .unset, .unset] [])) (fun t k => XS.astore X30.here hx rfl (hb hby at_39) rfl rfl (l' := #[.val (.int p0), .val (.int p1), .val (.int p2), .val (.int p3), .val (.ref b1), .val (.int (1 : Int32)), .val (.ref b24), .unset, .unset, .unset, .unset, .unset, .unset]) rfl k) ?_
    refine go _ (T30.setTop (mkF m 42 #[.val (.int p0), .val (.int p1), .val (.int p2), .val (.int p3), .val (.ref b1), .val (.int (1 : Int32)), .val (.ref b24), .unset, .unset, .unset, .unset, .unset, .unset] [(.int p0)])) (fun t k => XS.iloadN X30.here hx rfl (hb hby at_41) rfl k) ?_
    have Z31z : n0 ≤ T30.heap.size := (Nat.le_trans Z29z K30.1)
    obtain ⟨_, _, ⟨T32, L32, k32, n32⟩, -, X32, ⟨Lc32, hQ32, l32, y32, z32⟩, st32⟩ := Jvm.LawKit.callS X30 hx (y := (⟨"dev/sheaf/ArrayReaderReadBytePinLaw", "unsigned", "(I)I"⟩ : MethodName)) hown (mvT hZ (hw _ (List.mem_of_getElem? (i := 20) rfl))) (mvT hZ (hw _ (List.mem_of_getElem? (i := 21) rfl))) (mvT hZ (hw _ (List.mem_of_getElem? (i := 22) rfl))) (mvT hZ (hw _ (List.mem_of_getElem? (i := 23) rfl))) (by decide) (backOf (W := 0) (rm4 l Z a0 hw [] p0 T30.heap n0 Z31z) hZ (hw _ (List.mem_of_getElem? (i := 23) rfl)) (hw _ (List.mem_of_getElem? (i := 22) rfl)) (by decide) (by decide)) (g := (mkF m 42 #[.val (.int p0), .val (.int p1), .val (.int p2), .val (.int p3), .val (.ref b1), .val (.int (1 : Int32)), .val (.ref b24), .unset, .unset, .unset, .unset, .unset, .unset] [(.int p0)])) rfl (by rw [hml]; rfl) (argsL := [(.int p0)]) (rest := []) (lenOf own_pd_2 rfl) rfl (by show 2 * 0 + _ ≤ _; exact Nat.le_of_eq rfl) (hb hby at_42) (fun _ _ => ⟨rfl, rfl, (by decide : 2 + 0 ≤ _), (by decide : 5 + 0 ≤ _)⟩)
    dsimp only [Pt.U, Pt.locs, Pt.cells, Pt.slots] at X32 l32 y32 z32 st32 hQ32
    subst l32 y32 z32
    obtain ⟨rfl, Nq32, eq32⟩ := hQ32
    have N32 := Fr.app N30 Nq32
    refine go _ (T32.setTop (mkF m 45 #[.val (.int p0), .val (.int p1), .val (.int p2), .val (.int p3), .val (.ref b1), .val (.int (1 : Int32)), .val (.ref b24), .unset, .unset, .unset, .unset, .unset, .unset] [(.int (own_uns p0))])) st32 ?_
    refine go _ (T32.setTop (mkF m 47 #[.val (.int p0), .val (.int p1), .val (.int p2), .val (.int p3), .val (.ref b1), .val (.int (1 : Int32)), .val (.ref b24), .val (.int (own_uns p0)), .unset, .unset, .unset, .unset, .unset] [])) (fun t k => XS.istore X32.here hx rfl (hb hby at_45) rfl (l' := #[.val (.int p0), .val (.int p1), .val (.int p2), .val (.int p3), .val (.ref b1), .val (.int (1 : Int32)), .val (.ref b24), .val (.int (own_uns p0)), .unset, .unset, .unset, .unset, .unset]) rfl k) ?_
    refine go _ (T32.setTop (mkF m 48 #[.val (.int p0), .val (.int p1), .val (.int p2), .val (.int p3), .val (.ref b1), .val (.int (1 : Int32)), .val (.ref b24), .val (.int (own_uns p0)), .unset, .unset, .unset, .unset, .unset] [(.int p1)])) (fun t k => XS.iloadN X32.here hx rfl (hb hby at_47) rfl k) ?_
    obtain ⟨_, _, ⟨T33, L33, k33, n33⟩, -, X33, ⟨Lc33, hQ33, l33, y33, z33⟩, st33⟩ := Jvm.LawKit.callS X32 hx (y := (⟨"dev/sheaf/ArrayReaderReadBytePinLaw", "unsigned", "(I)I"⟩ : MethodName)) hown (mvT hZ (hw _ (List.mem_of_getElem? (i := 20) rfl))) (mvT hZ (hw _ (List.mem_of_getElem? (i := 21) rfl))) (mvT hZ (hw _ (List.mem_of_getElem? (i := 22) rfl))) (mvT hZ (hw _ (List.mem_of_getElem? (i := 23) rfl))) (by decide) (backOf (W := 0) (rm4 l Z a0 hw [] p1 T30.heap n0 Z31z) hZ (hw _ (List.mem_of_getElem? (i := 23) rfl)) (hw _ (List.mem_of_getElem? (i := 22) rfl)) (by decide) (by decide)) (g := (mkF m 48 #[.val (.int p0), .val (.int p1), .val (.int p2), .val (.int p3), .val (.ref b1), .val (.int (1 : Int32)), .val (.ref b24), .val (.int (own_uns p0)), .unset, .unset, .unset, .unset, .unset] [(.int p1)])) rfl (by rw [hml]; rfl) (argsL := [(.int p1)]) (rest := []) (lenOf own_pd_2 rfl) rfl (by show 2 * 0 + _ ≤ _; exact Nat.le_of_eq rfl) (hb hby at_48) (fun _ _ => ⟨rfl, eq32, (by decide : 2 + 0 ≤ _), (by decide : 5 + 0 ≤ _)⟩)
    dsimp only [Pt.U, Pt.locs, Pt.cells, Pt.slots] at X33 l33 y33 z33 st33 hQ33
    subst l33 y33 z33
    obtain ⟨rfl, Nq33, eq33⟩ := hQ33
    have N33 := Fr.app N32 Nq33
    refine go _ (T33.setTop (mkF m 51 #[.val (.int p0), .val (.int p1), .val (.int p2), .val (.int p3), .val (.ref b1), .val (.int (1 : Int32)), .val (.ref b24), .val (.int (own_uns p0)), .unset, .unset, .unset, .unset, .unset] [(.int (own_uns p1))])) st33 ?_
    refine go _ (T33.setTop (mkF m 53 #[.val (.int p0), .val (.int p1), .val (.int p2), .val (.int p3), .val (.ref b1), .val (.int (1 : Int32)), .val (.ref b24), .val (.int (own_uns p0)), .val (.int (own_uns p1)), .unset, .unset, .unset, .unset] [])) (fun t k => XS.istore X33.here hx rfl (hb hby at_51) rfl (l' := #[.val (.int p0), .val (.int p1), .val (.int p2), .val (.int p3), .val (.ref b1), .val (.int (1 : Int32)), .val (.ref b24), .val (.int (own_uns p0)), .val (.int (own_uns p1)), .unset, .unset, .unset, .unset]) rfl k) ?_
    refine go _ (T33.setTop (mkF m 54 #[.val (.int p0), .val (.int p1), .val (.int p2), .val (.int p3), .val (.ref b1), .val (.int (1 : Int32)), .val (.ref b24), .val (.int (own_uns p0)), .val (.int (own_uns p1)), .unset, .unset, .unset, .unset] [(.int p2)])) (fun t k => XS.iloadN X33.here hx rfl (hb hby at_53) rfl k) ?_
    obtain ⟨_, _, ⟨T34, L34, k34, n34⟩, -, X34, ⟨Lc34, hQ34, l34, y34, z34⟩, st34⟩ := Jvm.LawKit.callS X33 hx (y := (⟨"dev/sheaf/ArrayReaderReadBytePinLaw", "unsigned", "(I)I"⟩ : MethodName)) hown (mvT hZ (hw _ (List.mem_of_getElem? (i := 20) rfl))) (mvT hZ (hw _ (List.mem_of_getElem? (i := 21) rfl))) (mvT hZ (hw _ (List.mem_of_getElem? (i := 22) rfl))) (mvT hZ (hw _ (List.mem_of_getElem? (i := 23) rfl))) (by decide) (backOf (W := 0) (rm4 l Z a0 hw [] p2 T30.heap n0 Z31z) hZ (hw _ (List.mem_of_getElem? (i := 23) rfl)) (hw _ (List.mem_of_getElem? (i := 22) rfl)) (by decide) (by decide)) (g := (mkF m 54 #[.val (.int p0), .val (.int p1), .val (.int p2), .val (.int p3), .val (.ref b1), .val (.int (1 : Int32)), .val (.ref b24), .val (.int (own_uns p0)), .val (.int (own_uns p1)), .unset, .unset, .unset, .unset] [(.int p2)])) rfl (by rw [hml]; rfl) (argsL := [(.int p2)]) (rest := []) (lenOf own_pd_2 rfl) rfl (by show 2 * 0 + _ ≤ _; exact Nat.le_of_eq rfl) (hb hby at_54) (fun _ _ => ⟨rfl, eq33, (by decide : 2 + 0 ≤ _), (by decide : 5 + 0 ≤ _)⟩)
    dsimp only [Pt.U, Pt.locs, Pt.cells, Pt.slots] at X34 l34 y34 z34 st34 hQ34
    subst l34 y34 z34
    obtain ⟨rfl, Nq34, eq34⟩ := hQ34
    have N34 := Fr.app N33 Nq34
    refine go _ (T34.setTop (mkF m 57 #[.val (.int p0), .val (.int p1), .val (.int p2), .val (.int p3), .val (.ref b1), .val (.int (1 : Int32)), .val (.ref b24), .val (.int (own_uns p0)), .val (.int (own_uns p1)), .unset, .unset, .unset, .unset] [(.int (own_uns p2))])) st34 ?_
    refine go _ (T34.setTop (mkF m 59 #[.val (.int p0), .val (.int p1), .val (.int p2), .val (.int p3), .val (.ref b1), .val (.int (1 : Int32)), .val (.ref b24), .val (.int (own_uns p0)), .val (.int (own_uns p1)), .val (.int (own_uns p2)), .unset, .unset, .unset] [])) (fun t k => XS.istore X34.here hx rfl (hb hby at_57) rfl (l' := #[.val (.int p0), .val (.int p1), .val (.int p2), .val (.int p3), .val (.ref b1), .val (.int (1 : Int32)), .val (.ref b24), .val (.int (own_uns p0)), .val (.int (own_uns p1)), .val (.int (own_uns p2)), .unset, .unset, .unset]) rfl k) ?_
    refine go _ (T34.setTop (mkF m 61 #[.val (.int p0), .val (.int p1), .val (.int p2), .val (.int p3), .val (.ref b1), .val (.int (1 : Int32)), .val (.ref b24), .val (.int (own_uns p0)), .val (.int (own_uns p1)), .val (.int (own_uns p2)), .unset, .unset, .unset] [(.ref b24)])) (fun t k => XS.aload X34.here hx rfl (hb hby at_59) rfl rfl k) ?_
    have A35_b1 : own_Av Z T30.heap b1 .byte 3 (own_up (own_up (own_up (fun _ => (.int 0)) 0 (.int (p0.toInt8.toInt32))) 1 (.int (p1.toInt8.toInt32))) 2 (.int (p2.toInt8.toInt32))) := ((Av4.ext E24).keep K30 (ninS ne27_b1_b24 nin0))
    obtain ⟨cq36, kq36, q36a, q36b, q36c⟩ := isOf hZ eq34 Ex30
    obtain ⟨_, _, ⟨T36, L36, k36, n36⟩, -, X36, ⟨Lc36, hQ36, l36, y36, z36⟩, st36⟩ := X34.virtualBack hx (y := (⟨"dev/sheaf/ArrayReader", "readByte", "()I"⟩ : MethodName)) (z := (⟨"dev/sheaf/ArrayReader", "readByte", "()I"⟩ : MethodName)) hown (mvT hZ (hw _ (List.mem_of_getElem? (i := 24) rfl))) (mvT hZ (hw _ (List.mem_of_getElem? (i := 25) rfl))) (notFace_of_selects (args := #[]) (mvT hZ (hw _ (List.mem_of_getElem? (i := 27) rfl)))) (mvT hZ (hw _ (List.mem_of_getElem? (i := 27) rfl))) (mvT hZ (hw _ (List.mem_of_getElem? (i := 26) rfl))) (by decide) (backOf (W := 0) (rm5 l Z a0 hw [] b24 b1 (1 : Int32) 1 (own_up (own_up (own_up (fun _ => (.int 0)) 0 (.int (p0.toInt8.toInt32))) 1 (.int (p1.toInt8.toInt32))) 2 (.int (p2.toInt8.toInt32))) T30.heap n0 Z31z Fa30_0 Fa30_1 Ex30 A35_b1 (Ne.symm ne27_b1_b24) g_b24 (by decide) (by decide)) hZ (hw _ (List.mem_of_getElem? (i := 28) rfl)) (hw _ (List.mem_of_getElem? (i := 4) rfl)) (by decide) (by decide)) q36a q36c (g := (mkF m 61 #[.val (.int p0), .val (.int p1), .val (.int p2), .val (.int p3), .val (.ref b1), .val (.int (1 : Int32)), .val (.ref b24), .val (.int (own_uns p0)), .val (.int (own_uns p1)), .val (.int (own_uns p2)), .unset, .unset, .unset] [(.ref b24)])) rfl (by rw [hml]; rfl) (Steps.refl _) (argsL := []) (rest := []) (lenOf own_pd_3 rfl) rfl (by show 2 * 0 + _ ≤ _; exact Nat.le_of_eq rfl) (hb hby at_61) (fun _ _ => ⟨rfl, eq34, (by decide : 2 + 0 ≤ _), (by decide : 5 + 0 ≤ _)⟩)
    dsimp only [Pt.U, Pt.locs, Pt.cells, Pt.slots] at X36 l36 y36 z36 st36 hQ36
    subst l36 y36 z36
    obtain ⟨rfl, Nq36, K36, Ex36, Fb36, Fp36⟩ := hQ36
    have N36 := Fr.app N34 Nq36
    refine go _ (T36.setTop (mkF m 64 #[.val (.int p0), .val (.int p1), .val (.int p2), .val (.int p3), .val (.ref b1), .val (.int (1 : Int32)), .val (.ref b24), .val (.int (own_uns p0)), .val (.int (own_uns p1)), .val (.int (own_uns p2)), .unset, .unset, .unset] [(.int ((p1.toInt8.toInt32) &&& (255 : Int32)))])) (fun t k => st36.trans k) ?_
    refine go _ (T36.setTop (mkF m 66 #[.val (.int p0), .val (.int p1), .val (.int p2), .val (.int p3), .val (.ref b1), .val (.int (1 : Int32)), .val (.ref b24), .val (.int (own_uns p0)), .val (.int (own_uns p1)), .val (.int (own_uns p2)), .val (.int ((p1.toInt8.toInt32) &&& (255 : Int32))), .unset, .unset] [])) (fun t k => XS.istore X36.here hx rfl (hb hby at_64) rfl (l' := #[.val (.int p0), .val (.int p1), .val (.int p2), .val (.int p3), .val (.ref b1), .val (.int (1 : Int32)), .val (.ref b24), .val (.int (own_uns p0)), .val (.int (own_uns p1)), .val (.int (own_uns p2)), .val (.int ((p1.toInt8.toInt32) &&& (255 : Int32))), .unset, .unset]) rfl k) ?_
    refine go _ (T36.setTop (mkF m 68 #[.val (.int p0), .val (.int p1), .val (.int p2), .val (.int p3), .val (.ref b1), .val (.int (1 : Int32)), .val (.ref b24), .val (.int (own_uns p0)), .val (.int (own_uns p1)), .val (.int (own_uns p2)), .val (.int ((p1.toInt8.toInt32) &&& (255 : Int32))), .unset, .unset] [(.int (1 : Int32))])) (fun t k => XS.iload X36.here hx rfl (hb hby at_66) rfl k) ?_
    refine go _ (T36.setTop (mkF m 69 #[.val (.int p0), .val (.int p1), .val (.int p2), .val (.int p3), .val (.ref b1), .val (.int (1 : Int32)), .val (.ref b24), .val (.int (own_uns p0)), .val (.int (own_uns p1)), .val (.int (own_uns p2)), .val (.int ((p1.toInt8.toInt32) &&& (255 : Int32))), .unset, .unset] [(.int (2 : Int32)), (.int (1 : Int32))])) (fun t k => XS.iconst X36.here hx rfl (hb hby at_68) k) ?_
    have hc69 : ¬ ((1 : Int32) = (2 : Int32)) := by decide
    refine go _ (T36.setTop (mkF m 85 #[.val (.int p0), .val (.int p1), .val (.int p2), .val (.int p3), .val (.ref b1), .val (.int (1 : Int32)), .val (.ref b24), .val (.int (own_uns p0)), .val (.int (own_uns p1)), .val (.int (own_uns p2)), .val (.int ((p1.toInt8.toInt32) &&& (255 : Int32))), .unset, .unset] [])) (fun t k => XS.icmpYes X36.here hx rfl (pc0 := 69) (pc' := 85) rfl (hb hby at_69) rfl (feq hc69).2 (by decide) (by decide) k) ?_
    refine go _ (T36.setTop (mkF m 87 #[.val (.int p0), .val (.int p1), .val (.int p2), .val (.int p3), .val (.ref b1), .val (.int (1 : Int32)), .val (.ref b24), .val (.int (own_uns p0)), .val (.int (own_uns p1)), .val (.int (own_uns p2)), .val (.int ((p1.toInt8.toInt32) &&& (255 : Int32))), .unset, .unset] [(.ref b24)])) (fun t k => XS.aload X36.here hx rfl (hb hby at_85) rfl rfl k) ?_
    have A37_b1 : own_Av Z T36.heap b1 .byte 3 (own_up (own_up (own_up (fun _ => (.int 0)) 0 (.int (p0.toInt8.toInt32))) 1 (.int (p1.toInt8.toInt32))) 2 (.int (p2.toInt8.toInt32))) := (A35_b1.keep K36 (ninS ne27_b1_b24 nin0))
    have Z38z : n0 ≤ T36.heap.size := (Nat.le_trans Z31z K36.1)
    obtain ⟨cq39, kq39, q39a, q39b, q39c⟩ := isOf hZ rfl Ex36
    obtain ⟨_, _, ⟨T39, L39, k39, n39⟩, -, X39, ⟨Lc39, hQ39, l39, y39, z39⟩, st39⟩ := X36.virtualBack hx (y := (⟨"dev/sheaf/ArrayReader", "readByte", "()I"⟩ : MethodName)) (z := (⟨"dev/sheaf/ArrayReader", "readByte", "()I"⟩ : MethodName)) hown (mvT hZ (hw _ (List.mem_of_getElem? (i := 24) rfl))) (mvT hZ (hw _ (List.mem_of_getElem? (i := 25) rfl))) (notFace_of_selects (args := #[]) (mvT hZ (hw _ (List.mem_of_getElem? (i := 27) rfl)))) (mvT hZ (hw _ (List.mem_of_getElem? (i := 27) rfl))) (mvT hZ (hw _ (List.mem_of_getElem? (i := 26) rfl))) (by decide) (backOf (W := 0) (rm5 l Z a0 hw [] b24 b1 ((1 : Int32) + (1 : Int32)) 2 (own_up (own_up (own_up (fun _ => (.int 0)) 0 (.int (p0.toInt8.toInt32))) 1 (.int (p1.toInt8.toInt32))) 2 (.int (p2.toInt8.toInt32))) T36.heap n0 Z38z Fb36 Fp36 Ex36 A37_b1 (Ne.symm ne27_b1_b24) g_b24 (by decide) (by decide)) hZ (hw _ (List.mem_of_getElem? (i := 28) rfl)) (hw _ (List.mem_of_getElem? (i := 4) rfl)) (by decide) (by decide)) q39a q39c (g := (mkF m 87 #[.val (.int p0), .val (.int p1), .val (.int p2), .val (.int p3), .val (.ref b1), .val (.int (1 : Int32)), .val (.ref b24), .val (.int (own_uns p0)), .val (.int (own_uns p1)), .val (.int (own_uns p2)), .val (.int ((p1.toInt8.toInt32) &&& (255 : Int32))), .unset, .unset] [(.ref b24)])) rfl (by rw [hml]; rfl) (Steps.refl _) (argsL := []) (rest := []) (lenOf own_pd_3 rfl) rfl (by show 2 * 0 + _ ≤ _; exact Nat.le_of_eq rfl) (hb hby at_87) (fun _ _ => ⟨rfl, rfl, (by decide : 2 + 0 ≤ _), (by decide : 5 + 0 ≤ _)⟩)
    dsimp only [Pt.U, Pt.locs, Pt.cells, Pt.slots] at X39 l39 y39 z39 st39 hQ39
    subst l39 y39 z39
    obtain ⟨rfl, Nq39, K39, Ex39, Fb39, Fp39⟩ := hQ39
    have N39 := Fr.app N36 Nq39
    refine go _ (T39.setTop (mkF m 90 #[.val (.int p0), .val (.int p1), .val (.int p2), .val (.int p3), .val (.ref b1), .val (.int (1 : Int32)), .val (.ref b24), .val (.int (own_uns p0)), .val (.int (own_uns p1)), .val (.int (own_uns p2)), .val (.int ((p1.toInt8.toInt32) &&& (255 : Int32))), .unset, .unset] [(.int ((p2.toInt8.toInt32) &&& (255 : Int32)))])) (fun t k => st39.trans k) ?_
    refine go _ (T39.setTop (mkF m 92 #[.val (.int p0), .val (.int p1), .val (.int p2), .val (.int p3), .val (.ref b1), .val (.int (1 : Int32)), .val (.ref b24), .val (.int (own_uns p0)), .val (.int (own_uns p1)), .val (.int (own_uns p2)), .val (.int ((p1.toInt8.toInt32) &&& (255 : Int32))), .val (.int ((p2.toInt8.toInt32) &&& (255 : Int32))), .unset] [])) (fun t k => XS.istore X39.here hx rfl (hb hby at_90) rfl (l' := #[.val (.int p0), .val (.int p1), .val (.int p2), .val (.int p3), .val (.ref b1), .val (.int (1 : Int32)), .val (.ref b24), .val (.int (own_uns p0)), .val (.int (own_uns p1)), .val (.int (own_uns p2)), .val (.int ((p1.toInt8.toInt32) &&& (255 : Int32))), .val (.int ((p2.toInt8.toInt32) &&& (255 : Int32))), .unset]) rfl k) ?_
    refine go _ (T39.setTop (mkF m 94 #[.val (.int p0), .val (.int p1), .val (.int p2), .val (.int p3), .val (.ref b1), .val (.int (1 : Int32)), .val (.ref b24), .val (.int (own_uns p0)), .val (.int (own_uns p1)), .val (.int (own_uns p2)), .val (.int ((p1.toInt8.toInt32) &&& (255 : Int32))), .val (.int ((p2.toInt8.toInt32) &&& (255 : Int32))), .unset] [(.int (1 : Int32))])) (fun t k => XS.iload X39.here hx rfl (hb hby at_92) rfl k) ?_
    refine go _ (T39.setTop (mkF m 95 #[.val (.int p0), .val (.int p1), .val (.int p2), .val (.int p3), .val (.ref b1), .val (.int (1 : Int32)), .val (.ref b24), .val (.int (own_uns p0)), .val (.int (own_uns p1)), .val (.int (own_uns p2)), .val (.int ((p1.toInt8.toInt32) &&& (255 : Int32))), .val (.int ((p2.toInt8.toInt32) &&& (255 : Int32))), .unset] [(.int (1 : Int32)), (.int (1 : Int32))])) (fun t k => XS.iconst X39.here hx rfl (hb hby at_94) k) ?_
    have hc95 : (1 : Int32) = (1 : Int32) := by decide
    refine go _ (T39.setTop (mkF m 98 #[.val (.int p0), .val (.int p1), .val (.int p2), .val (.int p3), .val (.ref b1), .val (.int (1 : Int32)), .val (.ref b24), .val (.int (own_uns p0)), .val (.int (own_uns p1)), .val (.int (own_uns p2)), .val (.int ((p1.toInt8.toInt32) &&& (255 : Int32))), .val (.int ((p2.toInt8.toInt32) &&& (255 : Int32))), .unset] [])) (fun t k => XS.icmpNo X39.here hx rfl (hb hby at_95) rfl (teq hc95).2 k) ?_
    refine go _ (T39.setTop (mkF m 100 #[.val (.int p0), .val (.int p1), .val (.int p2), .val (.int p3), .val (.ref b1), .val (.int (1 : Int32)), .val (.ref b24), .val (.int (own_uns p0)), .val (.int (own_uns p1)), .val (.int (own_uns p2)), .val (.int ((p1.toInt8.toInt32) &&& (255 : Int32))), .val (.int ((p2.toInt8.toInt32) &&& (255 : Int32))), .unset] [(.int ((p1.toInt8.toInt32) &&& (255 : Int32)))])) (fun t k => XS.iload X39.here hx rfl (hb hby at_98) rfl k) ?_
    refine go _ (T39.setTop (mkF m 102 #[.val (.int p0), .val (.int p1), .val (.int p2), .val (.int p3), .val (.ref b1), .val (.int (1 : Int32)), .val (.ref b24), .val (.int (own_uns p0)), .val (.int (own_uns p1)), .val (.int (own_uns p2)), .val (.int ((p1.toInt8.toInt32) &&& (255 : Int32))), .val (.int ((p2.toInt8.toInt32) &&& (255 : Int32))), .unset] [(.int (own_uns p1)), (.int ((p1.toInt8.toInt32) &&& (255 : Int32)))])) (fun t k => XS.iload X39.here hx rfl (hb hby at_100) rfl k) ?_
    have hc102 : ((p1.toInt8.toInt32) &&& (255 : Int32)) = (own_uns p1) := by exact own_mask _
    refine go _ (T39.setTop (mkF m 105 #[.val (.int p0), .val (.int p1), .val (.int p2), .val (.int p3), .val (.ref b1), .val (.int (1 : Int32)), .val (.ref b24), .val (.int (own_uns p0)), .val (.int (own_uns p1)), .val (.int (own_uns p2)), .val (.int ((p1.toInt8.toInt32) &&& (255 : Int32))), .val (.int ((p2.toInt8.toInt32) &&& (255 : Int32))), .unset] [])) (fun t k => XS.icmpNo X39.here hx rfl (hb hby at_102) rfl (teq hc102).2 k) ?_
    refine go _ (T39.setTop (mkF m 107 #[.val (.int p0), .val (.int p1), .val (.int p2), .val (.int p3), .val (.ref b1), .val (.int (1 : Int32)), .val (.ref b24), .val (.int (own_uns p0)), .val (.int (own_uns p1)), .val (.int (own_uns p2)), .val (.int ((p1.toInt8.toInt32) &&& (255 : Int32))), .val (.int ((p2.toInt8.toInt32) &&& (255 : Int32))), .unset] [(.int ((p2.toInt8.toInt32) &&& (255 : Int32)))])) (fun t k => XS.iload X39.here hx rfl (hb hby at_105) rfl k) ?_
    refine go _ (T39.setTop (mkF m 109 #[.val (.int p0), .val (.int p1), .val (.int p2), .val (.int p3), .val (.ref b1), .val (.int (1 : Int32)), .val (.ref b24), .val (.int (own_uns p0)), .val (.int (own_uns p1)), .val (.int (own_uns p2)), .val (.int ((p1.toInt8.toInt32) &&& (255 : Int32))), .val (.int ((p2.toInt8.toInt32) &&& (255 : Int32))), .unset] [(.int (own_uns p2)), (.int ((p2.toInt8.toInt32) &&& (255 : Int32)))])) (fun t k => XS.iload X39.here hx rfl (hb hby at_107) rfl k) ?_
    have hc109 : ((p2.toInt8.toInt32) &&& (255 : Int32)) = (own_uns p2) := by exact own_mask _
    refine go _ (T39.setTop (mkF m 112 #[.val (.int p0), .val (.int p1), .val (.int p2), .val (.int p3), .val (.ref b1), .val (.int (1 : Int32)), .val (.ref b24), .val (.int (own_uns p0)), .val (.int (own_uns p1)), .val (.int (own_uns p2)), .val (.int ((p1.toInt8.toInt32) &&& (255 : Int32))), .val (.int ((p2.toInt8.toInt32) &&& (255 : Int32))), .unset] [])) (fun t k => XS.icmpNo X39.here hx rfl (hb hby at_109) rfl (teq hc109).2 k) ?_
    refine go _ (T39.setTop (mkF m 113 #[.val (.int p0), .val (.int p1), .val (.int p2), .val (.int p3), .val (.ref b1), .val (.int (1 : Int32)), .val (.ref b24), .val (.int (own_uns p0)), .val (.int (own_uns p1)), .val (.int (own_uns p2)), .val (.int ((p1.toInt8.toInt32) &&& (255 : Int32))), .val (.int ((p2.toInt8.toInt32) &&& (255 : Int32))), .unset] [(.int (1 : Int32))])) (fun t k => XS.iconst X39.here hx rfl (hb hby at_112) k) ?_
    refine go _ (T39.setTop (mkF m 117 #[.val (.int p0), .val (.int p1), .val (.int p2), .val (.int p3), .val (.ref b1), .val (.int (1 : Int32)), .val (.ref b24), .val (.int (own_uns p0)), .val (.int (own_uns p1)), .val (.int (own_uns p2)), .val (.int ((p1.toInt8.toInt32) &&& (255 : Int32))), .val (.int ((p2.toInt8.toInt32) &&& (255 : Int32))), .unset] [(.int (1 : Int32))])) (fun t k => XS.goto X39.here hx rfl (pc0 := 113) (pc' := 117) rfl (hb hby at_113) (by decide) (by decide) k) ?_
    refine fin (some (.int (1 : Int32))) (mkF m 117 #[.val (.int p0), .val (.int p1), .val (.int p2), .val (.int p3), .val (.ref b1), .val (.int (1 : Int32)), .val (.ref b24), .val (.int (own_uns p0)), .val (.int (own_uns p1)), .val (.int (own_uns p2)), .val (.int ((p1.toInt8.toInt32) &&& (255 : Int32))), .val (.int ((p2.toInt8.toInt32) &&& (255 : Int32))), .unset] [(.int (1 : Int32))]) X39 (fun h => by cases h) (fun fs hr => retOut X39 hx (t := .boolean) hret rfl (Or.inl ⟨rfl, by simp, _, rfl⟩) (hb hby at_117) hr) ?_ (by decide) (by decide)
    exact ⟨rfl, N39⟩
  · have Z41z : n0 ≤ h4.size := (Nat.le_trans (Nat.le_trans (Nat.le_trans (Nat.le_trans Z0 E1.1) (Keep.of_wr W2).1) (Keep.of_wr W3).1) (Keep.of_wr W4).1)
    obtain ⟨T40, h40, X40, e40, E40, Ax40, D40, -, st40⟩ := newO X4 hx hZ hown (hw _ (List.mem_of_getElem? (i := 2) rfl)) (hw _ (List.mem_of_getElem? (i := 3) rfl)) (hw _ (List.mem_of_getElem? (i := 4) rfl)) e4 (g := (mkF m 28 #[.val (.int p0), .val (.int p1), .val (.int p2), .val (.int p3), .val (.ref b1), .val (.int (2 : Int32)), .unset, .unset, .unset, .unset, .unset, .unset, .unset] [])) rfl (hb hby at_28) (by decide) (by decide)
    obtain ⟨b40, gb40⟩ : ∃ z, z = h4.size := ⟨_, rfl⟩
    rw [← gb40] at Ax40 D40 st40
    have E42_b1 : Exa Z h4 b1 "[B" := (((Ax1.wr W2).wr W3).wr W4)
    have ne43_b1_b40 : b1 ≠ b40 := Nat.ne_of_lt (Nat.lt_of_lt_of_le E42_b1.lt (Nat.le_of_eq gb40.symm))
    have g_b40 : n0 ≤ b40 := Nat.le_trans Z41z (Nat.le_of_eq gb40.symm)
    have S44s : h0.size ≤ h4.size ∧ True := ⟨(Nat.le_trans (Nat.le_trans (Nat.le_trans E1.1 (Keep.of_wr W2).1) (Keep.of_wr W3).1) (Keep.of_wr W4).1), trivial⟩
    have sz_b40 : h0.size ≤ b40 := (Nat.le_trans S44s.1 (Nat.le_of_eq gb40.symm))
    have F_bytes_b40 : Fld Z h40 b40 "dev/sheaf/ArrayReader" "bytes" "[B" .null := D40 (Or.inr (hw _ (List.mem_of_getElem? (i := 17) rfl))) (ty := (.array .byte)) (by decide)
    have F_position_b40 : Fld Z h40 b40 "dev/sheaf/ArrayReader" "position" "I" (.int (0 : Int32)) := D40 (Or.inl (hw _ (List.mem_of_getElem? (i := 19) rfl))) (ty := .int) (by decide)
    refine go _ (T40.setTop (mkF m 31 #[.val (.int p0), .val (.int p1), .val (.int p2), .val (.int p3), .val (.ref b1), .val (.int (2 : Int32)), .unset, .unset, .unset, .unset, .unset, .unset, .unset] [(.ref b40)])) st40 ?_
    refine go _ (T40.setTop (mkF m 32 #[.val (.int p0), .val (.int p1), .val (.int p2), .val (.int p3), .val (.ref b1), .val (.int (2 : Int32)), .unset, .unset, .unset, .unset, .unset, .unset, .unset] [(.ref b40), (.ref b40)])) (fun t k => XS.dup X40.here hx rfl (hb hby at_31) rfl rfl k) ?_
    refine go _ (T40.setTop (mkF m 34 #[.val (.int p0), .val (.int p1), .val (.int p2), .val (.int p3), .val (.ref b1), .val (.int (2 : Int32)), .unset, .unset, .unset, .unset, .unset, .unset, .unset] [(.ref b1), (.ref b40), (.ref b40)])) (fun t k => XS.aload X40.here hx rfl (hb hby at_32) rfl rfl k) ?_
    refine go _ (T40.setTop (mkF m 36 #[.val (.int p0), .val (.int p1), .val (.int p2), .val (.int p3), .val (.ref b1), .val (.int (2 : Int32)), .unset, .unset, .unset, .unset, .unset, .unset, .unset] [(.int (2 : Int32)), (.ref b1), (.ref b40), (.ref b40)])) (fun t k => XS.iload X40.here hx rfl (hb hby at_34) rfl k) ?_
    have Z45z : n0 ≤ h40.size := (Nat.le_trans Z41z E40.1)
    obtain ⟨_, _, ⟨T46, L46, k46, n46⟩, -, X46, ⟨Lc46, hQ46, l46, y46, z46⟩, st46⟩ := X40.specialBack hx (y := (⟨"dev/sheaf/ArrayReader", "<init>", "([BI)V"⟩ : MethodName)) rfl hown (mvT hZ (hw _ (List.mem_of_getElem? (i := 5) rfl))) (mvT hZ (hw _ (List.mem_of_getElem? (i := 6) rfl))) (mvT hZ (hw _ (List.mem_of_getElem? (i := 7) rfl))) (by decide) (backOf (W := 1) (rm1 l Z a0 hw [] b40 b1 (2 : Int32) h40 n0 Z45z F_bytes_b40 F_position_b40 Ax40 g_b40) hZ (hw _ (List.mem_of_getElem? (i := 7) rfl)) (hw _ (List.mem_of_getElem? (i := 4) rfl)) (by decide) (by decide)) (g := (mkF m 36 #[.val (.int p0), .val (.int p1), .val (.int p2), .val (.int p3), .val (.ref b1), .val (.int (2 : Int32)), .unset, .unset, .unset, .unset, .unset, .unset, .unset] [(.int (2 : Int32)), (.ref b1), (.ref b40), (.ref b40)])) rfl (by rw [hml]; rfl) (Steps.refl _) (a := b40) (argsL := [(.ref b1), (.int (2 : Int32))]) (rest := [(.ref b40)]) (lenOf own_pd_1 rfl) rfl (by show 2 * 0 + _ ≤ _; exact Nat.le_of_eq rfl) (hb hby at_36) (fun _ _ => ⟨rfl, e40, (by decide : 2 + 0 ≤ _), (by decide : 5 + 0 ≤ _)⟩)
    dsimp only [Pt.U, Pt.locs, Pt.cells, Pt.slots] at X46 l46 y46 z46 st46 hQ46
    subst l46 y46 z46
    obtain ⟨rfl, Nq46, K46, Ex46, Fa46_0, Fa46_1⟩ := hQ46
    have N46 := Fr.app N4 Nq46
    refine go _ (T46.setTop (mkF m 39 #[.val (.int p0), .val (.int p1), .val (.int p2), .val (.int p3), .val (.ref b1), .val (.int (2 : Int32)), .unset, .unset, .unset, .unset, .unset, .unset, .unset] [(.ref b40)])) (fun t k => st46.trans k) ?_
    refine go _ (T46.setTop (mkF m 41 #[.val (.int p0), .val (.int p1), .val (.int p2), .val (.int p3), .val (.ref b1), .val (.int (2 : Int32)), .val (.ref b40), .unset, .unset, .unset, .unset, .unset, .unset] [])) (fun t k => XS.astore X46.here hx rfl (hb hby at_39) rfl rfl (l' := #[.val (.int p0), .val (.int p1), .val (.int p2), .val (.int p3), .val (.ref b1), .val (.int (2 : Int32)), .val (.ref b40), .unset, .unset, .unset, .unset, .unset, .unset]) rfl k) ?_
    refine go _ (T46.setTop (mkF m 42 #[.val (.int p0), .val (.int p1), .val (.int p2), .val (.int p3), .val (.ref b1), .val (.int (2 : Int32)), .val (.ref b40), .unset, .unset, .unset, .unset, .unset, .unset] [(.int p0)])) (fun t k => XS.iloadN X46.here hx rfl (hb hby at_41) rfl k) ?_
    have Z47z : n0 ≤ T46.heap.size := (Nat.le_trans Z45z K46.1)
    obtain ⟨_, _, ⟨T48, L48, k48, n48⟩, -, X48, ⟨Lc48, hQ48, l48, y48, z48⟩, st48⟩ := Jvm.LawKit.callS X46 hx (y := (⟨"dev/sheaf/ArrayReaderReadBytePinLaw", "unsigned", "(I)I"⟩ : MethodName)) hown (mvT hZ (hw _ (List.mem_of_getElem? (i := 20) rfl))) (mvT hZ (hw _ (List.mem_of_getElem? (i := 21) rfl))) (mvT hZ (hw _ (List.mem_of_getElem? (i := 22) rfl))) (mvT hZ (hw _ (List.mem_of_getElem? (i := 23) rfl))) (by decide) (backOf (W := 0) (rm4 l Z a0 hw [] p0 T46.heap n0 Z47z) hZ (hw _ (List.mem_of_getElem? (i := 23) rfl)) (hw _ (List.mem_of_getElem? (i := 22) rfl)) (by decide) (by decide)) (g := (mkF m 42 #[.val (.int p0), .val (.int p1), .val (.int p2), .val (.int p3), .val (.ref b1), .val (.int (2 : Int32)), .val (.ref b40), .unset, .unset, .unset, .unset, .unset, .unset] [(.int p0)])) rfl (by rw [hml]; rfl) (argsL := [(.int p0)]) (rest := []) (lenOf own_pd_2 rfl) rfl (by show 2 * 0 + _ ≤ _; exact Nat.le_of_eq rfl) (hb hby at_42) (fun _ _ => ⟨rfl, rfl, (by decide : 2 + 0 ≤ _), (by decide : 5 + 0 ≤ _)⟩)
    dsimp only [Pt.U, Pt.locs, Pt.cells, Pt.slots] at X48 l48 y48 z48 st48 hQ48
    subst l48 y48 z48
    obtain ⟨rfl, Nq48, eq48⟩ := hQ48
    have N48 := Fr.app N46 Nq48
    refine go _ (T48.setTop (mkF m 45 #[.val (.int p0), .val (.int p1), .val (.int p2), .val (.int p3), .val (.ref b1), .val (.int (2 : Int32)), .val (.ref b40), .unset, .unset, .unset, .unset, .unset, .unset] [(.int (own_uns p0))])) st48 ?_
    refine go _ (T48.setTop (mkF m 47 #[.val (.int p0), .val (.int p1), .val (.int p2), .val (.int p3), .val (.ref b1), .val (.int (2 : Int32)), .val (.ref b40), .val (.int (own_uns p0)), .unset, .unset, .unset, .unset, .unset] [])) (fun t k => XS.istore X48.here hx rfl (hb hby at_45) rfl (l' := #[.val (.int p0), .val (.int p1), .val (.int p2), .val (.int p3), .val (.ref b1), .val (.int (2 : Int32)), .val (.ref b40), .val (.int (own_uns p0)), .unset, .unset, .unset, .unset, .unset]) rfl k) ?_
    refine go _ (T48.setTop (mkF m 48 #[.val (.int p0), .val (.int p1), .val (.int p2), .val (.int p3), .val (.ref b1), .val (.int (2 : Int32)), .val (.ref b40), .val (.int (own_uns p0)), .unset, .unset, .unset, .unset, .unset] [(.int p1)])) (fun t k => XS.iloadN X48.here hx rfl (hb hby at_47) rfl k) ?_
    obtain ⟨_, _, ⟨T49, L49, k49, n49⟩, -, X49, ⟨Lc49, hQ49, l49, y49, z49⟩, st49⟩ := Jvm.LawKit.callS X48 hx (y := (⟨"dev/sheaf/ArrayReaderReadBytePinLaw", "unsigned", "(I)I"⟩ : MethodName)) hown (mvT hZ (hw _ (List.mem_of_getElem? (i := 20) rfl))) (mvT hZ (hw _ (List.mem_of_getElem? (i := 21) rfl))) (mvT hZ (hw _ (List.mem_of_getElem? (i := 22) rfl))) (mvT hZ (hw _ (List.mem_of_getElem? (i := 23) rfl))) (by decide) (backOf (W := 0) (rm4 l Z a0 hw [] p1 T46.heap n0 Z47z) hZ (hw _ (List.mem_of_getElem? (i := 23) rfl)) (hw _ (List.mem_of_getElem? (i := 22) rfl)) (by decide) (by decide)) (g := (mkF m 48 #[.val (.int p0), .val (.int p1), .val (.int p2), .val (.int p3), .val (.ref b1), .val (.int (2 : Int32)), .val (.ref b40), .val (.int (own_uns p0)), .unset, .unset, .unset, .unset, .unset] [(.int p1)])) rfl (by rw [hml]; rfl) (argsL := [(.int p1)]) (rest := []) (lenOf own_pd_2 rfl) rfl (by show 2 * 0 + _ ≤ _; exact Nat.le_of_eq rfl) (hb hby at_48) (fun _ _ => ⟨rfl, eq48, (by decide : 2 + 0 ≤ _), (by decide : 5 + 0 ≤ _)⟩)
    dsimp only [Pt.U, Pt.locs, Pt.cells, Pt.slots] at X49 l49 y49 z49 st49 hQ49
    subst l49 y49 z49
    obtain ⟨rfl, Nq49, eq49⟩ := hQ49
    have N49 := Fr.app N48 Nq49
    refine go _ (T49.setTop (mkF m 51 #[.val (.int p0), .val (.int p1), .val (.int p2), .val (.int p3), .val (.ref b1), .val (.int (2 : Int32)), .val (.ref b40), .val (.int (own_uns p0)), .unset, .unset, .unset, .unset, .unset] [(.int (own_uns p1))])) st49 ?_
    refine go _ (T49.setTop (mkF m 53 #[.val (.int p0), .val (.int p1), .val (.int p2), .val (.int p3), .val (.ref b1), .val (.int (2 : Int32)), .val (.ref b40), .val (.int (own_uns p0)), .val (.int (own_uns p1)), .unset, .unset, .unset, .unset] [])) (fun t k => XS.istore X49.here hx rfl (hb hby at_51) rfl (l' := #[.val (.int p0), .val (.int p1), .val (.int p2), .val (.int p3), .val (.ref b1), .val (.int (2 : Int32)), .val (.ref b40), .val (.int (own_uns p0)), .val (.int (own_uns p1)), .unset, .unset, .unset, .unset]) rfl k) ?_
    refine go _ (T49.setTop (mkF m 54 #[.val (.int p0), .val (.int p1), .val (.int p2), .val (.int p3), .val (.ref b1), .val (.int (2 : Int32)), .val (.ref b40), .val (.int (own_uns p0)), .val (.int (own_uns p1)), .unset, .unset, .unset, .unset] [(.int p2)])) (fun t k => XS.iloadN X49.here hx rfl (hb hby at_53) rfl k) ?_
    obtain ⟨_, _, ⟨T50, L50, k50, n50⟩, -, X50, ⟨Lc50, hQ50, l50, y50, z50⟩, st50⟩ := Jvm.LawKit.callS X49 hx (y := (⟨"dev/sheaf/ArrayReaderReadBytePinLaw", "unsigned", "(I)I"⟩ : MethodName)) hown (mvT hZ (hw _ (List.mem_of_getElem? (i := 20) rfl))) (mvT hZ (hw _ (List.mem_of_getElem? (i := 21) rfl))) (mvT hZ (hw _ (List.mem_of_getElem? (i := 22) rfl))) (mvT hZ (hw _ (List.mem_of_getElem? (i := 23) rfl))) (by decide) (backOf (W := 0) (rm4 l Z a0 hw [] p2 T46.heap n0 Z47z) hZ (hw _ (List.mem_of_getElem? (i := 23) rfl)) (hw _ (List.mem_of_getElem? (i := 22) rfl)) (by decide) (by decide)) (g := (mkF m 54 #[.val (.int p0), .val (.int p1), .val (.int p2), .val (.int p3), .val (.ref b1), .val (.int (2 : Int32)), .val (.ref b40), .val (.int (own_uns p0)), .val (.int (own_uns p1)), .unset, .unset, .unset, .unset] [(.int p2)])) rfl (by rw [hml]; rfl) (argsL := [(.int p2)]) (rest := []) (lenOf own_pd_2 rfl) rfl (by show 2 * 0 + _ ≤ _; exact Nat.le_of_eq rfl) (hb hby at_54) (fun _ _ => ⟨rfl, eq49, (by decide : 2 + 0 ≤ _), (by decide : 5 + 0 ≤ _)⟩)
    dsimp only [Pt.U, Pt.locs, Pt.cells, Pt.slots] at X50 l50 y50 z50 st50 hQ50
    subst l50 y50 z50
    obtain ⟨rfl, Nq50, eq50⟩ := hQ50
    have N50 := Fr.app N49 Nq50
    refine go _ (T50.setTop (mkF m 57 #[.val (.int p0), .val (.int p1), .val (.int p2), .val (.int p3), .val (.ref b1), .val (.int (2 : Int32)), .val (.ref b40), .val (.int (own_uns p0)), .val (.int (own_uns p1)), .unset, .unset, .unset, .unset] [(.int (own_uns p2))])) st50 ?_
    refine go _ (T50.setTop (mkF m 59 #[.val (.int p0), .val (.int p1), .val (.int p2), .val (.int p3), .val (.ref b1), .val (.int (2 : Int32)), .val (.ref b40), .val (.int (own_uns p0)), .val (.int (own_uns p1)), .val (.int (own_uns p2)), .unset, .unset, .unset] [])) (fun t k => XS.istore X50.here hx rfl (hb hby at_57) rfl (l' := #[.val (.int p0), .val (.int p1), .val (.int p2), .val (.int p3), .val (.ref b1), .val (.int (2 : Int32)), .val (.ref b40), .val (.int (own_uns p0)), .val (.int (own_uns p1)), .val (.int (own_uns p2)), .unset, .unset, .unset]) rfl k) ?_
    refine go _ (T50.setTop (mkF m 61 #[.val (.int p0), .val (.int p1), .val (.int p2), .val (.int p3), .val (.ref b1), .val (.int (2 : Int32)), .val (.ref b40), .val (.int (own_uns p0)), .val (.int (own_uns p1)), .val (.int (own_uns p2)), .unset, .unset, .unset] [(.ref b40)])) (fun t k => XS.aload X50.here hx rfl (hb hby at_59) rfl rfl k) ?_
    have A51_b1 : own_Av Z T46.heap b1 .byte 3 (own_up (own_up (own_up (fun _ => (.int 0)) 0 (.int (p0.toInt8.toInt32))) 1 (.int (p1.toInt8.toInt32))) 2 (.int (p2.toInt8.toInt32))) := ((Av4.ext E40).keep K46 (ninS ne43_b1_b40 nin0))
    obtain ⟨cq52, kq52, q52a, q52b, q52c⟩ := isOf hZ eq50 Ex46
    obtain ⟨_, _, ⟨T52, L52, k52, n52⟩, -, X52, ⟨Lc52, hQ52, l52, y52, z52⟩, st52⟩ := X50.virtualBack hx (y := (⟨"dev/sheaf/ArrayReader", "readByte", "()I"⟩ : MethodName)) (z := (⟨"dev/sheaf/ArrayReader", "readByte", "()I"⟩ : MethodName)) hown (mvT hZ (hw _ (List.mem_of_getElem? (i := 24) rfl))) (mvT hZ (hw _ (List.mem_of_getElem? (i := 25) rfl))) (notFace_of_selects (args := #[]) (mvT hZ (hw _ (List.mem_of_getElem? (i := 27) rfl)))) (mvT hZ (hw _ (List.mem_of_getElem? (i := 27) rfl))) (mvT hZ (hw _ (List.mem_of_getElem? (i := 26) rfl))) (by decide) (backOf (W := 0) (rm5 l Z a0 hw [] b40 b1 (2 : Int32) 2 (own_up (own_up (own_up (fun _ => (.int 0)) 0 (.int (p0.toInt8.toInt32))) 1 (.int (p1.toInt8.toInt32))) 2 (.int (p2.toInt8.toInt32))) T46.heap n0 Z47z Fa46_0 Fa46_1 Ex46 A51_b1 (Ne.symm ne43_b1_b40) g_b40 (by decide) (by decide)) hZ (hw _ (List.mem_of_getElem? (i := 28) rfl)) (hw _ (List.mem_of_getElem? (i := 4) rfl)) (by decide) (by decide)) q52a q52c (g := (mkF m 61 #[.val (.int p0), .val (.int p1), .val (.int p2), .val (.int p3), .val (.ref b1), .val (.int (2 : Int32)), .val (.ref b40), .val (.int (own_uns p0)), .val (.int (own_uns p1)), .val (.int (own_uns p2)), .unset, .unset, .unset] [(.ref b40)])) rfl (by rw [hml]; rfl) (Steps.refl _) (argsL := []) (rest := []) (lenOf own_pd_3 rfl) rfl (by show 2 * 0 + _ ≤ _; exact Nat.le_of_eq rfl) (hb hby at_61) (fun _ _ => ⟨rfl, eq50, (by decide : 2 + 0 ≤ _), (by decide : 5 + 0 ≤ _)⟩)
    dsimp only [Pt.U, Pt.locs, Pt.cells, Pt.slots] at X52 l52 y52 z52 st52 hQ52
    subst l52 y52 z52
    obtain ⟨rfl, Nq52, K52, Ex52, Fb52, Fp52⟩ := hQ52
    have N52 := Fr.app N50 Nq52
    refine go _ (T52.setTop (mkF m 64 #[.val (.int p0), .val (.int p1), .val (.int p2), .val (.int p3), .val (.ref b1), .val (.int (2 : Int32)), .val (.ref b40), .val (.int (own_uns p0)), .val (.int (own_uns p1)), .val (.int (own_uns p2)), .unset, .unset, .unset] [(.int ((p2.toInt8.toInt32) &&& (255 : Int32)))])) (fun t k => st52.trans k) ?_
    refine go _ (T52.setTop (mkF m 66 #[.val (.int p0), .val (.int p1), .val (.int p2), .val (.int p3), .val (.ref b1), .val (.int (2 : Int32)), .val (.ref b40), .val (.int (own_uns p0)), .val (.int (own_uns p1)), .val (.int (own_uns p2)), .val (.int ((p2.toInt8.toInt32) &&& (255 : Int32))), .unset, .unset] [])) (fun t k => XS.istore X52.here hx rfl (hb hby at_64) rfl (l' := #[.val (.int p0), .val (.int p1), .val (.int p2), .val (.int p3), .val (.ref b1), .val (.int (2 : Int32)), .val (.ref b40), .val (.int (own_uns p0)), .val (.int (own_uns p1)), .val (.int (own_uns p2)), .val (.int ((p2.toInt8.toInt32) &&& (255 : Int32))), .unset, .unset]) rfl k) ?_
    refine go _ (T52.setTop (mkF m 68 #[.val (.int p0), .val (.int p1), .val (.int p2), .val (.int p3), .val (.ref b1), .val (.int (2 : Int32)), .val (.ref b40), .val (.int (own_uns p0)), .val (.int (own_uns p1)), .val (.int (own_uns p2)), .val (.int ((p2.toInt8.toInt32) &&& (255 : Int32))), .unset, .unset] [(.int (2 : Int32))])) (fun t k => XS.iload X52.here hx rfl (hb hby at_66) rfl k) ?_
    refine go _ (T52.setTop (mkF m 69 #[.val (.int p0), .val (.int p1), .val (.int p2), .val (.int p3), .val (.ref b1), .val (.int (2 : Int32)), .val (.ref b40), .val (.int (own_uns p0)), .val (.int (own_uns p1)), .val (.int (own_uns p2)), .val (.int ((p2.toInt8.toInt32) &&& (255 : Int32))), .unset, .unset] [(.int (2 : Int32)), (.int (2 : Int32))])) (fun t k => XS.iconst X52.here hx rfl (hb hby at_68) k) ?_
    have hc69 : (2 : Int32) = (2 : Int32) := by decide
    refine go _ (T52.setTop (mkF m 72 #[.val (.int p0), .val (.int p1), .val (.int p2), .val (.int p3), .val (.ref b1), .val (.int (2 : Int32)), .val (.ref b40), .val (.int (own_uns p0)), .val (.int (own_uns p1)), .val (.int (own_uns p2)), .val (.int ((p2.toInt8.toInt32) &&& (255 : Int32))), .unset, .unset] [])) (fun t k => XS.icmpNo X52.here hx rfl (hb hby at_69) rfl (teq hc69).2 k) ?_
    refine go _ (T52.setTop (mkF m 74 #[.val (.int p0), .val (.int p1), .val (.int p2), .val (.int p3), .val (.ref b1), .val (.int (2 : Int32)), .val (.ref b40), .val (.int (own_uns p0)), .val (.int (own_uns p1)), .val (.int (own_uns p2)), .val (.int ((p2.toInt8.toInt32) &&& (255 : Int32))), .unset, .unset] [(.int ((p2.toInt8.toInt32) &&& (255 : Int32)))])) (fun t k => XS.iload X52.here hx rfl (hb hby at_72) rfl k) ?_
    refine go _ (T52.setTop (mkF m 76 #[.val (.int p0), .val (.int p1), .val (.int p2), .val (.int p3), .val (.ref b1), .val (.int (2 : Int32)), .val (.ref b40), .val (.int (own_uns p0)), .val (.int (own_uns p1)), .val (.int (own_uns p2)), .val (.int ((p2.toInt8.toInt32) &&& (255 : Int32))), .unset, .unset] [(.int (own_uns p2)), (.int ((p2.toInt8.toInt32) &&& (255 : Int32)))])) (fun t k => XS.iload X52.here hx rfl (hb hby at_74) rfl k) ?_
    have hc76 : ((p2.toInt8.toInt32) &&& (255 : Int32)) = (own_uns p2) := by exact own_mask _
    refine go _ (T52.setTop (mkF m 79 #[.val (.int p0), .val (.int p1), .val (.int p2), .val (.int p3), .val (.ref b1), .val (.int (2 : Int32)), .val (.ref b40), .val (.int (own_uns p0)), .val (.int (own_uns p1)), .val (.int (own_uns p2)), .val (.int ((p2.toInt8.toInt32) &&& (255 : Int32))), .unset, .unset] [])) (fun t k => XS.icmpNo X52.here hx rfl (hb hby at_76) rfl (teq hc76).2 k) ?_
    refine go _ (T52.setTop (mkF m 80 #[.val (.int p0), .val (.int p1), .val (.int p2), .val (.int p3), .val (.ref b1), .val (.int (2 : Int32)), .val (.ref b40), .val (.int (own_uns p0)), .val (.int (own_uns p1)), .val (.int (own_uns p2)), .val (.int ((p2.toInt8.toInt32) &&& (255 : Int32))), .unset, .unset] [(.int (1 : Int32))])) (fun t k => XS.iconst X52.here hx rfl (hb hby at_79) k) ?_
    refine go _ (T52.setTop (mkF m 84 #[.val (.int p0), .val (.int p1), .val (.int p2), .val (.int p3), .val (.ref b1), .val (.int (2 : Int32)), .val (.ref b40), .val (.int (own_uns p0)), .val (.int (own_uns p1)), .val (.int (own_uns p2)), .val (.int ((p2.toInt8.toInt32) &&& (255 : Int32))), .unset, .unset] [(.int (1 : Int32))])) (fun t k => XS.goto X52.here hx rfl (pc0 := 80) (pc' := 84) rfl (hb hby at_80) (by decide) (by decide) k) ?_
    refine fin (some (.int (1 : Int32))) (mkF m 84 #[.val (.int p0), .val (.int p1), .val (.int p2), .val (.int p3), .val (.ref b1), .val (.int (2 : Int32)), .val (.ref b40), .val (.int (own_uns p0)), .val (.int (own_uns p1)), .val (.int (own_uns p2)), .val (.int ((p2.toInt8.toInt32) &&& (255 : Int32))), .unset, .unset] [(.int (1 : Int32))]) X52 (fun h => by cases h) (fun fs hr => retOut X52 hx (t := .boolean) hret rfl (Or.inl ⟨rfl, by simp, _, rfl⟩) (hb hby at_84) hr) ?_ (by decide) (by decide)
    exact ⟨rfl, N52⟩
set_option maxRecDepth 65536 in
set_option maxHeartbeats 40000000 in
theorem comes_1 {Post : Tables → Env → Array Value → State → Outcome → State → Prop} (hpost : ∀ tb e args s v u, (limb_1_1.after args s (.returned v) u = true ∧ limb_1_2.after args s (.returned v) u = true ∧ True) → FrameEnd s (.returned v) u (Jvm.fieldLocs frame_1_writes args s ++ Jvm.arrayLocs frame_1_arrays args s ++ Jvm.staticLocs frame_1_statics s) 16 128 → Post tb e args s (.returned v) u) :
    ArmFor flags0 classFile x code maxLocals ret World_1 tables_1 room_1 Calls_1 rest_1 Pre_1 Post := by
  intro l hfl _ _ p e ha hc hk s m args below hf hA hF happ hP
  obtain ⟨hcalls, hrest, hpre⟩ := hP
  obtain ⟨-, -, -, hnamed, -, -, -, hat⟩ := (Spec.applies_iff hf).mp happ
  obtain ⟨hg, hn⟩ := and_e (Cond.before_iff.mp (show (Jvm.Cond.and given_1 narrow_1).before args s = true from hpre))
  obtain ⟨gg1, gg2⟩ := and_e hg
  obtain ⟨gg3, gg4⟩ := and_e gg2
  obtain ⟨gg5, gg6⟩ := and_e gg4
  obtain ⟨gg7, gg8⟩ := and_e gg6
  obtain ⟨w0, w1, w2, w3, rfl⟩ : ∃ w0 w1 w2 w3 : Value, args = #[w0, w1, w2, w3] := by
    have hs : args.size = 4 := by simpa [Cond.value, given_1] using gg1
    obtain ⟨L⟩ := args
    match L, hs with
    | [w0, w1, w2, w3], _ => exact ⟨w0, w1, w2, w3, rfl⟩
  have hw := fun d (hd : d ∈ tables_1) => atoms_spec (ws := Jvm.Cond.code x code maxLocals ret :: tables_1) hat d (List.mem_cons_of_mem _ hd)
  have hfit : Fit s := fun {y c} hc i hi => by
    obtain ⟨ha, rfl⟩ := Array.getElem?_eq_some_iff.mp hc
    have q := List.all_eq_true.mp ((Array.all_eq_true_iff_forall_mem.mp hF) _ (Array.getElem_mem ha)) i (List.mem_range.mpr hi)
    simpa [Array.getElem?_eq_getElem hi] using q
  obtain ⟨i0, ei0⟩ := is_v gg3
  obtain rfl : w0 = (.int i0) := Option.some.inj ei0
  obtain ⟨i1, ei1⟩ := is_v gg5
  obtain rfl : w1 = (.int i1) := Option.some.inj ei1
  obtain ⟨i2, ei2⟩ := is_v gg7
  obtain rfl : w2 = (.int i2) := Option.some.inj ei2
  obtain ⟨i3, ei3⟩ := is_v gg8
  obtain rfl : w3 = (.int i3) := Option.some.inj ei3
  obtain ⟨n, o, h1, h2, h3, _, L, rfl, ⟨rfl, N⟩, hq⟩ := rm0 l s _ hw tables_1 i0 i1 i2 i3 s.heap s.heap.size (Nat.le_refl _)  p e ha hc hk s m _ below hf ((Spec.applies_iff_loose hf).mp happ).1 ⟨rfl, State.Warmed39.refl s, rfl⟩ trivial
  refine ⟨n, _, h1, h2, h3, hpost _ _ _ _ _ _ ⟨Cond.after_iff.mpr rfl, Cond.after_iff.mpr (eq_i res_at (Term.int_eval (1)) rfl), trivial⟩ ⟨hq.1, hq.2.1, (hq.2.2.sift fun y hy => Or.inr (N y hy)).mono (by decide) (by decide)⟩⟩
theorem main_1_1 : Claimed_1_1 := comes_1 fun _ _ _ _ _ _ h hF => ⟨h.1, hF⟩
theorem main_1_2 : Claimed_1_2 := comes_1 fun _ _ _ _ _ _ h hF => ⟨h.2.1, hF⟩
end Jvm.Pilot.@@N@@
namespace Jvm.Pilot.@@N@@
open Jvm Jvm.ClassFile Sem Op Lib Jvm.Free Jvm.Stand Jvm.Pilot.@@N@@.Jvm.D
/-! MADE BY PROGRAM (witnessworld.py) out of the Statement's table words and the real class files: 10 classes; the members and pool entries that the words name. The judged class is class 1, her method 2. -/
namespace start1
open Jvm.ClassFile
def u (s : String) : CpInfo := .utf8 (stringToUtf16 s)
/-- a pool by its gaps: so many unusable entries, then the entry; so many at the end -/
def gap : Nat → List CpInfo → List CpInfo
  | 0, r => r
  | n + 1, r => .unusable :: gap n r
def poolList (es : List (Nat × CpInfo)) (last : Nat) : List CpInfo := es.foldr (fun e r => gap e.1 (e.2 :: r)) (gap last [])
def pool (es : List (Nat × CpInfo)) (last : Nat) : Array CpInfo := ⟨poolList es last⟩
def fileOf (pool : Array CpInfo) (this : Nat) (attrs : Array Attribute := #[]) (ms : Array MethodInfo := #[]) (fl : Nat := 33) (sup : Nat := 0) (ifs : Array Nat := #[]) (fds : Array FieldInfo := #[]) : ClassFile where
  minorVersion := 0
  majorVersion := 65
  constantPool := pool
  accessFlags := fl
  thisClass := this
  superClass := sup
  interfaces := ifs
  fields := fds
  methods := ms
  attributes := attrs
def plain (name : String) (sup : Option ClassId) : Class where
  name := name
  kind := .ordinary
  loader := none
  accessFlags := 33
  super := sup
  interfaces := #[]
  cf := none
  fields := #[]
  methods := #[]
  instanceTypes := #[]
  staticTypes := #[]
  resolved := #[]
  callSites := []
  init := .initialized
  statics := none
  mirror := none

def pool0 : Array CpInfo := pool [(5, u "<init>"), (0, u "()V"), (1, .class_ 10), (1, u "java/lang/Object")] 113

def k0c0 : Code := { maxStack := 0, maxLocals := 1, code := object_method_1_code, exceptionTable := #[], attributes := #[] }
def k0m0 : Method := { name := "<init>", desc := "()V", sig := { parameters := [], returnType := none }, accessFlags := 1, code := some k0c0 }
/-- java/lang/Object -/
def k0 : Class := { plain "java/lang/Object" none with
  accessFlags := 33
  interfaces := #[]
  cf := some (fileOf pool0 8 #[] #[{ accessFlags := 1, nameIndex := 5, descriptorIndex := 6, attributes := #[] }] 33 0 #[] #[])
  fields := #[]
  methods := #[k0m0]
  instanceTypes := #[]
  staticTypes := #[]
  resolved := Array.replicate 124 none
  statics := none }

def pool1 : Array CpInfo := pool [(2, .class_ 4), (1, u "java/lang/Object"), (0, u "<init>"), (0, u "()V"), (0, .integer 2147483647), (0, .class_ 9), (0, u "dev/sheaf/ArrayReader"), (0, .methodref 8 11), (0, .nameAndType 5 12), (0, u "([BI)V"), (0, .methodref 14 15), (0, .class_ 16), (0, .nameAndType 17 18), (0, u "dev/sheaf/ArrayReaderReadBytePinLaw"), (0, u "unsigned"), (0, u "(I)I"), (0, .methodref 8 20), (0, .nameAndType 21 22), (0, u "readByte"), (0, u "()I"), (2, u "law"), (0, u "(IIII)Z")] 5

def k1m0 : Method := { name := "<init>", desc := "()V", sig := { parameters := [], returnType := none }, accessFlags := 1, code := none }
def k1c1 : Code := { maxStack := 2, maxLocals := 1, code := method_2_code, exceptionTable := #[], attributes := #[] }
def k1m1 : Method := { name := "unsigned", desc := "(I)I", sig := { parameters := [.int], returnType := some .int }, accessFlags := 10, code := some k1c1 }
def k1c2 : Code := { maxStack := 4, maxLocals := 13, code := code, exceptionTable := #[], attributes := #[] }
def k1m2 : Method := { name := "law", desc := "(IIII)Z", sig := { parameters := [.int, .int, .int, .int], returnType := some .boolean }, accessFlags := 9, code := some k1c2 }
/-- dev/sheaf/ArrayReaderReadBytePinLaw -/
def k1 : Class := { plain "dev/sheaf/ArrayReaderReadBytePinLaw" (some 0) with
  accessFlags := 49
  interfaces := #[]
  cf := some (fileOf pool1 14 #[] #[{ accessFlags := 1, nameIndex := 5, descriptorIndex := 6, attributes := #[] }, { accessFlags := 10, nameIndex := 17, descriptorIndex := 18, attributes := #[] }, { accessFlags := 9, nameIndex := 25, descriptorIndex := 26, attributes := #[] }] 49 2 #[] #[])
  fields := #[]
  methods := #[k1m0, k1m1, k1m2]
  instanceTypes := #[]
  staticTypes := #[]
  resolved := Array.replicate 32 none
  statics := none }

def pool2 : Array CpInfo := pool [(1, .methodref 2 3), (0, .class_ 4), (0, .nameAndType 5 6), (0, u "java/lang/Object"), (0, u "<init>"), (0, u "()V"), (1, .class_ 10), (1, u "dev/sheaf/ByteReader"), (22, u "NOT_A_CHARACTER"), (0, u "Ljava/lang/String;")] 18

def k2c0 : Code := { maxStack := 1, maxLocals := 1, code := prog_4_method_1_code, exceptionTable := #[], attributes := #[] }
def k2m0 : Method := { name := "<init>", desc := "()V", sig := { parameters := [], returnType := none }, accessFlags := 0, code := some k2c0 }
/-- dev/sheaf/ByteReader -/
def k2 : Class := { plain "dev/sheaf/ByteReader" (some 0) with
  accessFlags := 1056
  interfaces := #[]
  cf := some (fileOf pool2 8 #[] #[{ accessFlags := 0, nameIndex := 5, descriptorIndex := 6, attributes := #[] }] 1056 2 #[] #[{ accessFlags := 26, nameIndex := 33, descriptorIndex := 34, attributes := #[] }])
  fields := #[{ name := "NOT_A_CHARACTER", type := (.object "java/lang/String"), accessFlags := 26, slot := 0, constantValue := 0 }]
  methods := #[k2m0]
  instanceTypes := #[]
  staticTypes := #[(.object "java/lang/String")]
  resolved := Array.replicate 53 none
  statics := none }

def pool3 : Array CpInfo := pool [(1, .methodref 2 3), (0, .class_ 4), (0, .nameAndType 5 6), (0, u "dev/sheaf/ByteReader"), (0, u "<init>"), (0, u "()V"), (0, .fieldref 8 9), (0, .class_ 10), (0, .nameAndType 11 12), (0, u "dev/sheaf/ArrayReader"), (0, u "bytes"), (0, u "[B"), (0, .fieldref 8 14), (0, .nameAndType 15 16), (0, u "position"), (0, u "I"), (46, u "([BI)V"), (2, u "readByte"), (0, u "()I")] 24

def k3c0 : Code := { maxStack := 2, maxLocals := 3, code := prog_1_method_1_code, exceptionTable := #[], attributes := #[] }
def k3m0 : Method := { name := "<init>", desc := "([BI)V", sig := { parameters := [(.array .byte), .int], returnType := none }, accessFlags := 0, code := some k3c0 }
def k3c1 : Code := { maxStack := 5, maxLocals := 1, code := prog_1_method_2_code, exceptionTable := #[], attributes := #[] }
def k3m1 : Method := { name := "readByte", desc := "()I", sig := { parameters := [], returnType := some .int }, accessFlags := 0, code := some k3c1 }
/-- dev/sheaf/ArrayReader -/
def k3 : Class := { plain "dev/sheaf/ArrayReader" (some 2) with
  accessFlags := 48
  interfaces := #[]
  cf := some (fileOf pool3 8 #[] #[{ accessFlags := 0, nameIndex := 5, descriptorIndex := 63, attributes := #[] }, { accessFlags := 0, nameIndex := 66, descriptorIndex := 67, attributes := #[] }] 48 2 #[] #[{ accessFlags := 18, nameIndex := 11, descriptorIndex := 12, attributes := #[] }, { accessFlags := 2, nameIndex := 15, descriptorIndex := 16, attributes := #[] }])
  fields := #[{ name := "bytes", type := (.array .byte), accessFlags := 18, slot := 0, constantValue := 0 }, { name := "position", type := .int, accessFlags := 2, slot := 1, constantValue := 0 }]
  methods := #[k3m0, k3m1]
  instanceTypes := #[(.array .byte), .int]
  staticTypes := #[]
  resolved := Array.replicate 92 none
  statics := none }

def pool4 : Array CpInfo := pool [(1, u "java/lang/Cloneable"), (0, .class_ 1), (0, u "java/lang/Object"), (0, .class_ 3)] 3

/-- java/lang/Cloneable -/
def k4 : Class := { plain "java/lang/Cloneable" (some 0) with
  accessFlags := 1537
  interfaces := #[]
  cf := some (fileOf pool4 2 #[] #[] 1537 4 #[] #[])
  fields := #[]
  methods := #[]
  instanceTypes := #[]
  staticTypes := #[]
  resolved := Array.replicate 8 none
  statics := none }

def pool5 : Array CpInfo := pool [(1, u "java/io/Serializable"), (0, .class_ 1), (0, u "java/lang/Object"), (0, .class_ 3)] 3

/-- java/io/Serializable -/
def k5 : Class := { plain "java/io/Serializable" (some 0) with
  accessFlags := 1537
  interfaces := #[]
  cf := some (fileOf pool5 2 #[] #[] 1537 4 #[] #[])
  fields := #[]
  methods := #[]
  instanceTypes := #[]
  staticTypes := #[]
  resolved := Array.replicate 8 none
  statics := none }

/-- the primitive byte -/
def k6 : Class := { plain "byte" none with kind := .primitive 'B', accessFlags := 0x411 }
/-- [B -/
def k7 : Class := { plain "[B" (some 0) with kind := .array 6 .byte, interfaces := #[4, 5], accessFlags := 1041 }

/-- the primitive int -/
def k8 : Class := { plain "int" none with kind := .primitive 'I', accessFlags := 0x411 }
/-- [I -/
def k9 : Class := { plain "[I" (some 0) with kind := .array 8 .int, interfaces := #[4, 5], accessFlags := 1041 }

def heap : Heap := #[]
def classes : Array Class := #[k0, k1, k2, k3, k4, k5, k6, k7, k8, k9]
def interned : List (Array UInt16 × Addr) := []
def slotsUsed : Nat := 0
def theMethod : MethodId := ⟨1, 2⟩
def args0 : Array Value := #[.int 1, .int 2, .int 3, .int 1]
def aboutOver (below : List Frame) : State where
  vm := { classes := classes, interned := interned.toArray }
  heap := heap
  slotsUsed := slotsUsed
  threads := #[{ frames := .invoking theMethod args0 :: below }]
def below0 : List Frame := [.native { method := ⟨0, 0⟩, args := #[] }]
def about1 : State := aboutOver below0
def p0 : Program := .bare "" "" ""
def e0 : Env := launch0.env 0 0 0
theorem w_frames : about1.frames = Frame.invoking theMethod args0 :: below0 := rfl
set_option maxRecDepth 65536 in
theorem w_args : argsFit about1.vm theMethod args0 = true := by decide +kernel
set_option maxRecDepth 65536 in
theorem w_heap : heapFits about1 = true := by decide +kernel
set_option maxRecDepth 65536 in
theorem w_runnable : about1.curStatus? = some .runnable := by decide +kernel
set_option maxRecDepth 65536 in
theorem w_alone : about1.alone = true := by decide +kernel
set_option maxRecDepth 65536 in
theorem w_named : about1.methodNamed? x = some theMethod := by decide +kernel
set_option maxRecDepth 65536 in
theorem w_hears : about1.hears theMethod below0 = true := by decide +kernel
set_option maxRecDepth 65536 in
theorem w_ripe : about1.ripe theMethod args0 below0 = true := by decide +kernel
theorem w_running : about1.status = .running := rfl
set_option maxRecDepth 65536 in
theorem w_room : about1.hasRoom e0.platform room_1 = true :=
  launch0.hasRoom_least _ room_1 (by decide +kernel) (by decide +kernel) (by decide +kernel) (by decide +kernel) (by decide +kernel) (by decide +kernel)
theorem allAtoms_all (ts : List Jvm.Cond) (a : Array Jvm.Value) (st : Jvm.State) : (allAtoms ts).before a st = ts.all (fun c => c.before a st) := by
  induction ts with
  | nil => rfl
  | cons c t ih =>
    show (Jvm.Cond.and c (allAtoms t)).before a st = _
    rw [Jvm.Cond.before_and, ih, List.all_cons]
def words1 : List Jvm.Cond := Jvm.Cond.code x code maxLocals ret :: tables_1
/-- a 'code' word, met by the world's own term for the bytes: nothing is compared byte by byte -/
theorem code_word {y : MethodName} {bytes : ByteArray} {mx : Nat} {rt : Option FieldType} {a : Array Value} {s : State} {m : MethodId} {meth : Method} {c : Code} (h1 : s.methodNamed? y = some m) (h2 : s.vm.method? m = some meth) (h3 : meth.code = some c) (h4 : c.code = bytes)
    (h5 : (c.maxLocals == mx && c.exceptionTable.isEmpty && decide (c.maxStack ≤ mostOperands) && decide (meth.sig.returnType = rt) && !meth.locks && decide (parseMethodDescriptor y.desc = some meth.sig)) = true) : (Jvm.Cond.code y bytes mx rt).before a s = true := by
  simp only [Bool.and_eq_true, beq_iff_eq, Bool.not_eq_true', decide_eq_true_eq] at h5
  obtain ⟨⟨⟨⟨⟨g1, g2⟩, g3⟩, g4⟩, g5⟩, g6⟩ := h5
  simp [Cond.before, Cond.holds, Cond.value, h1, h2, h3, h4, g1, g2, g3, g4, g5, g6]
def isCode : Jvm.Cond → Bool
  | .code _ _ _ _ => true
  | _ => false
theorem all_split {L : List Jvm.Cond} {P : Jvm.Cond → Bool} (h1 : L.all (fun c => isCode c || P c) = true) (h2 : ∀ c ∈ L.filter isCode, P c = true) : L.all P = true := by
  refine List.all_eq_true.mpr fun c hc => ?_
  have h := List.all_eq_true.mp h1 c hc
  rcases Bool.eq_false_or_eq_true (isCode c) with hi | hi
  · exact h2 c (List.mem_filter.mpr ⟨hc, hi⟩)
  · simpa [hi] using h
set_option maxRecDepth 65536 in
theorem w_c0 : (Jvm.Cond.code x code maxLocals ret).before args0 about1 = true := code_word (m := ⟨1, 2⟩) (meth := k1m2) (c := k1c2) (by decide +kernel) rfl rfl rfl (by decide +kernel)
set_option maxRecDepth 65536 in
theorem w_c1 : (Jvm.Cond.code ({ cls := "dev/sheaf/ArrayReader", name := "<init>", desc := "([BI)V" } : Jvm.MethodName) prog_1_method_1_code (3 : Nat) (Option.none : Option Jvm.ClassFile.FieldType)).before args0 about1 = true := code_word (m := ⟨3, 0⟩) (meth := k3m0) (c := k3c0) (by decide +kernel) rfl rfl rfl (by decide +kernel)
set_option maxRecDepth 65536 in
theorem w_c2 : (Jvm.Cond.code ({ cls := "dev/sheaf/ByteReader", name := "<init>", desc := "()V" } : Jvm.MethodName) prog_4_method_1_code (1 : Nat) (Option.none : Option Jvm.ClassFile.FieldType)).before args0 about1 = true := code_word (m := ⟨2, 0⟩) (meth := k2m0) (c := k2c0) (by decide +kernel) rfl rfl rfl (by decide +kernel)
set_option maxRecDepth 65536 in
theorem w_c3 : (Jvm.Cond.code ({ cls := "java/lang/Object", name := "<init>", desc := "()V" } : Jvm.MethodName) object_method_1_code (1 : Nat) (Option.none : Option Jvm.ClassFile.FieldType)).before args0 about1 = true := code_word (m := ⟨0, 0⟩) (meth := k0m0) (c := k0c0) (by decide +kernel) rfl rfl rfl (by decide +kernel)
set_option maxRecDepth 65536 in
theorem w_c4 : (Jvm.Cond.code ({ cls := "dev/sheaf/ArrayReaderReadBytePinLaw", name := "unsigned", desc := "(I)I" } : Jvm.MethodName) method_2_code (1 : Nat) (Option.some Jvm.ClassFile.FieldType.int)).before args0 about1 = true := code_word (m := ⟨1, 1⟩) (meth := k1m1) (c := k1c1) (by decide +kernel) rfl rfl rfl (by decide +kernel)
set_option maxRecDepth 65536 in
theorem w_c5 : (Jvm.Cond.code ({ cls := "dev/sheaf/ArrayReader", name := "readByte", desc := "()I" } : Jvm.MethodName) prog_1_method_2_code (1 : Nat) (Option.some Jvm.ClassFile.FieldType.int)).before args0 about1 = true := code_word (m := ⟨3, 1⟩) (meth := k3m1) (c := k3c1) (by decide +kernel) rfl rfl rfl (by decide +kernel)
def codes1 : List Jvm.Cond := [Jvm.Cond.code x code maxLocals ret, Jvm.Cond.code ({ cls := "dev/sheaf/ArrayReader", name := "<init>", desc := "([BI)V" } : Jvm.MethodName) prog_1_method_1_code (3 : Nat) (Option.none : Option Jvm.ClassFile.FieldType), Jvm.Cond.code ({ cls := "dev/sheaf/ByteReader", name := "<init>", desc := "()V" } : Jvm.MethodName) prog_4_method_1_code (1 : Nat) (Option.none : Option Jvm.ClassFile.FieldType), Jvm.Cond.code ({ cls := "java/lang/Object", name := "<init>", desc := "()V" } : Jvm.MethodName) object_method_1_code (1 : Nat) (Option.none : Option Jvm.ClassFile.FieldType), Jvm.Cond.code ({ cls := "dev/sheaf/ArrayReaderReadBytePinLaw", name := "unsigned", desc := "(I)I" } : Jvm.MethodName) method_2_code (1 : Nat) (Option.some Jvm.ClassFile.FieldType.int), Jvm.Cond.code ({ cls := "dev/sheaf/ArrayReader", name := "readByte", desc := "()I" } : Jvm.MethodName) prog_1_method_2_code (1 : Nat) (Option.some Jvm.ClassFile.FieldType.int)]
set_option maxRecDepth 65536 in
theorem codes_eq : words1.filter isCode = codes1 := rfl
theorem w_codes : ∀ c ∈ words1.filter isCode, c.before args0 about1 = true := by
  rw [codes_eq]
  intro c hc
  simp only [codes1, List.mem_cons, List.not_mem_nil, or_false] at hc
  rcases hc with rfl | rfl | rfl | rfl | rfl | rfl
  · exact w_c0
  · exact w_c1
  · exact w_c2
  · exact w_c3
  · exact w_c4
  · exact w_c5
set_option maxRecDepth 65536 in
theorem w_t1 : (words1.take 24).all (fun c => isCode c || c.before args0 about1) = true := by decide +kernel
set_option maxRecDepth 65536 in
theorem w_t2 : (words1.drop 24).all (fun c => isCode c || c.before args0 about1) = true := by decide +kernel
theorem w_tables : (allAtoms (Jvm.Cond.code x code maxLocals ret :: tables_1)).before args0 about1 = true := by
  rw [allAtoms_all]
  show words1.all (fun c => c.before args0 about1) = true
  refine all_split ?_ w_codes
  rw [← List.take_append_drop 24 words1, List.all_append, w_t1, w_t2]
  rfl
set_option maxRecDepth 65536 in
theorem w_case : (Jvm.Cond.and given_1 narrow_1).before args0 about1 = true := by decide +kernel
theorem w_applies : (headSpec (Jvm.Cond.code x code maxLocals ret :: tables_1) room_1).applies x e0.platform about1 = true :=
  (Spec.applies_iff w_frames).mpr ⟨w_running, w_runnable, w_alone, w_named, w_hears, w_ripe, w_room, w_tables⟩
theorem atStart : AtStart classFile x code maxLocals ret World_1 tables_1 room_1 Calls_1 rest_1 Pre_1 launch0 p0 e0 about1 theMethod args0 below0 :=
  ⟨lists_1, trivial, launch0.admits_env _ _ _, launch0.least_env, fairChoices_fair.cas, fairChoices_fair.clock, w_frames, w_args, w_heap, w_applies, trivial, trivial, w_case⟩
end start1
theorem witness_1 : WitnessClaimed_1 := ⟨start1.p0, start1.e0, start1.about1, start1.theMethod, start1.args0, start1.below0, start1.atStart⟩
end Jvm.Pilot.@@N@@
