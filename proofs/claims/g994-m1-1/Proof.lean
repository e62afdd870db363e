import JvmDerived
import JvmDerived.Pilot.@@N@@Statement
import JvmDerived.Pilot.@@N@@Code
set_option linter.unusedVariables false
set_option linter.unusedSimpArgs false
namespace Jvm.Pilot.@@N@@
open Jvm Jvm.ClassFile Sem Op Lib Jvm.Free Jvm.Stand Jvm.LawKit Jvm.RoadKit Bundle Jvm.Pilot.@@N@@.Jvm.D
/-! my own layer: a body's walk by a predicate on states (go: one step on, fin: a return), arrays by their elements -/
theorem own_metfree {l : Launch} {x : MethodName} {ws : List Jvm.Cond} {R : Room} {code : ByteArray} {maxL : Nat} {ret : Option FieldType} {as' : Array Value} {Z : State} {h0 : Heap} {Q : Option Value → Heap → List Loc → Prop} (hpl : plainFor x = true)
    (body : ∀ (p : Program) (e : Env) (s : State) (m : MethodId) (below : List Frame) (meth : Method) (c : Code) (s₁ : State),
      Stand p l e R s m as' below meth c s₁ [] 0 0 → p.tables.exec = Jvm.exec → c.code = code → c.maxLocals = maxL → meth.sig.returnType = ret → s.vm.findClass x.cls = some m.cls → meth.name = x.name → Z.Warmed39 s.vm → s₁.heap = h0 →
      ∀ G : State → Prop, (∀ U U', (∀ t, Steps p.tables e below U' t → Steps p.tables e below U t) → G U' → G U) →
        (∀ {T : State} {locs : List Loc} {cells slots : Nat} (v : Option Value) (g : JFrame), Stand p l e R s m as' below meth c T locs cells slots → (ret = none → v = none) →
          (∀ fs, (∀ (f : JFrame) (acts : List Action), f.method = m → f.locked = none → f.entered = [] → (doReturn e (T.setTop f) acts v).1 = T.setFrames fs) → Steps p.tables e below (T.setTop g) (T.setFrames fs)) →
          Q v T.heap locs → cells ≤ R.cells → slots ≤ R.slots → G (T.setTop g)) →
        G (s₁.setTop (entryFrame m as' maxL))) :
    MetFree l x (head1 (Jvm.Cond.code x code maxL ret :: ws) R) (fun a U => a = as' ∧ Z.Warmed39 U.vm ∧ U.heap = h0) (fun _ _ _ _ _ => True) (fun _ U o U' => ∃ v L, o = .returned v ∧ Q v U'.heap L ∧ FrameEnd U o U' L R.cells R.slots) := by
  refine MetFree.of_bodySF hpl hisR ?_
  intro p e s m args below meth c s₁ Bd hml0 hP hK
  obtain ⟨rfl, hZ, hh⟩ := hP
  have X0 : Stand p l e R s m args below meth c s₁ [] 0 0 := Stand.of_body Bd
  refine body p e s m below meth c s₁ X0 Bd.exec Bd.bytes hml0 Bd.returns (findClass_of_methodNamed Bd.named) (name_of_methodNamed Bd.named Bd.method).1 hZ (by rw [← hh, Bd.state]; rfl)
    (fun U => ∃ s₂ o, Steps p.tables e below U s₂ ∧ s₂.status = .running ∧ Ended s₂ below o ∧ ∃ v L, o = .returned v ∧ Q v s₂.heap L ∧ FrameEnd s o s₂ L R.cells R.slots) ?_ ?_
  · rintro U U' h ⟨s₂, o, h1, h2⟩
    exact ⟨s₂, o, h _ h1, h2⟩
  · intro T locs cells slots v g X hv hst hq hc hs
    obtain ⟨fs, hr, hrun, hended, hW, hsame⟩ := X.leave (v := v) (by rw [Bd.returns]; exact hv)
    exact ⟨_, _, hst fs hr, hrun, hended, _, _, rfl, hq, ⟨_, rfl⟩, hW, hsame.mono hc hs⟩
theorem own_lrem {tb : Tables} [Ours tb] {e : Env} {below : List Frame} {T target : State} {m : MethodId} {c : Code} {g : JFrame} (h : At T m c below) (hx : tb.exec = Jvm.exec) (hg : g.method = m) {x y : Int64} {rest : List Value} (hd : decode c.code g.pc = .ok (.lrem, 1)) (hs : g.stack = .long y :: .long x :: rest) (hy : y ≠ 0)
    (hr : Steps tb e below (T.setTop { g with pc := g.pc + 1, stack := .long (x % y) :: rest }) target) : Steps tb e below (T.setTop g) target :=
  XS.lrem h hx hg hd hs hy (by rw [lrem_mod]; exact hr)
def own_iv : Value → Int32
  | .int x => x
  | _ => 0
def own_jv : Value → Int64
  | .long x => x
  | _ => 0
theorem own_iv_int (x : Int32) : own_iv (.int x) = x := rfl
theorem own_jv_long (x : Int64) : own_jv (.long x) = x := rfl
def own_up (f : Nat → Value) (i : Nat) (v : Value) : Nat → Value := fun k => if k = i then v else f k
theorem own_up_at (f : Nat → Value) (i : Nat) (v : Value) (k : Nat) : own_up f i v k = if k = i then v else f k := rfl
def own_Av (Z : State) (h : Heap) (a : Addr) (ty : FieldType) (n : Nat) (f : Nat → Value) : Prop := ∃ c : Cell, Arr Z h a c ty ∧ c.slots.size = n ∧ n < 2 ^ 31 ∧ ∀ i, i < n → c.slots[i]? = some (f i) ∧ fits ty (f i) = true
theorem own_Av.lt {Z : State} {h : Heap} {a : Addr} {ty : FieldType} {n : Nat} {f : Nat → Value} (A : own_Av Z h a ty n f) : a < h.size := by obtain ⟨c, Ar, -⟩ := A; exact Ar.lt
theorem own_Av.ext {Z : State} {h h' : Heap} {a : Addr} {ty : FieldType} {n : Nat} {f : Nat → Value} (A : own_Av Z h a ty n f) (E : Ext h h') : own_Av Z h' a ty n f := by obtain ⟨c, Ar, r⟩ := A; exact ⟨c, Ar.ext E, r⟩
theorem own_Av.other {Z : State} {h h' : Heap} {a b : Addr} {ty : FieldType} {n : Nat} {f : Nat → Value} {sl : Nat} {v : Value} (A : own_Av Z h a ty n f) (W : Wr h h' b sl v) (q : a ≠ b) : own_Av Z h' a ty n f := by obtain ⟨c, Ar, r⟩ := A; exact ⟨c, Ar.other W q, r⟩
theorem own_Av.keep {Z : State} {h h' : Heap} {a : Addr} {ty : FieldType} {n : Nat} {f : Nat → Value} {ws : List Addr} (A : own_Av Z h a ty n f) (K : Keep h h' ws) (q : a ∉ ws) : own_Av Z h' a ty n f := by obtain ⟨c, Ar, r⟩ := A; exact ⟨c, ⟨K.2.1 a c Ar.1 q, Ar.2⟩, r⟩
theorem own_Av.congr {Z : State} {h : Heap} {a : Addr} {ty : FieldType} {n : Nat} {f f' : Nat → Value} (A : own_Av Z h a ty n f) (q : ∀ i, i < n → f i = f' i) : own_Av Z h a ty n f' := by
  obtain ⟨c, Ar, h1, h2, h3⟩ := A
  exact ⟨c, Ar, h1, h2, fun i hi => by rw [← q i hi]; exact h3 i hi⟩
theorem own_Av.new {Z : State} {h : Heap} {a : Addr} {k : ClassId} {ty : FieldType} {z : Int32} {N : Nat} (A : Arr Z h a (newA k ty z) ty) (q : ¬ z < 0) (e : z.toNatClampNeg = N) : own_Av Z h a ty N (fun _ => defaultValue ty) := by
  have hs : (newA k ty z).slots.size = N := by rw [sz_new, e]
  refine ⟨_, A, hs, e ▸ (back32 q).2, fun i hi => ⟨?_, ?_⟩⟩
  · have hi' : i < (newA k ty z).slots.size := by rw [hs]; exact hi
    rw [Array.getElem?_eq_getElem hi']
    simp [newA]
  · cases ty <;> rfl
theorem own_nat {j : Int32} {i : Nat} (h : j.toInt = (i : Int)) : j.toNatClampNeg = i := by show j.toInt.toNat = i; omega
theorem own_nn {j : Int32} {i : Nat} (h : j.toInt = (i : Int)) : ¬ j < 0 := by
  rw [Int32.lt_iff_toInt_lt]
  have : (0 : Int32).toInt = 0 := by decide
  omega
theorem own_in {j : Int32} {i n : Nat} {cl : Cell} (hs : cl.slots.size = n) (h : j.toInt = (i : Int)) (hi : i < n) : ¬ (j < 0 ∨ cl.slots.size ≤ j.toNatClampNeg) := by
  rw [own_nat h, hs]; rintro (q | q)
  · exact own_nn h q
  · omega
theorem own_nar8 (y : Int32) : nar .byte y.toInt8.toInt32 = y.toInt8.toInt32 := by simp [nar]
theorem own_set {Z : State} {h h' : Heap} {a : Addr} {ty : FieldType} {n : Nat} {f : Nat → Value} {c : Cell} {i : Nat} {v : Value} (Ar : Arr Z h a c ty) (hs : c.slots.size = n) (hn : n < 2 ^ 31) (hf : ∀ i, i < n → c.slots[i]? = some (f i) ∧ fits ty (f i) = true) (W : Wr h h' a i v) (hv : fits ty v = true) (hi : i < n) : own_Av Z h' a ty n (own_up f i v) := by
  refine ⟨_, Ar.same W, by rw [sz_set]; exact hs, hn, fun k hk => ?_⟩
  simp only [own_up_at]
  by_cases q : k = i
  · subst q; simp [Cell.setSlot, hs, hi, hv]
  · rw [if_neg q]; refine ⟨?_, (hf k hk).2⟩; rw [← (hf k hk).1]; simp [Cell.setSlot, Array.getElem?_setIfInBounds, Ne.symm q]
section OwnArr
variable {p : Program} {l : Launch} {e : Env} {R : Room} {s : State} {m : MethodId} {args : Array Value} {below : List Frame} {meth : Method} {c : Code} {T : State} {locs : List Loc} {cells slots : Nat} {Z : State} {h : Heap} {a : Addr} {n : Nat} {f : Nat → Value}
theorem own_ldB (X : Stand p l e R s m args below meth c T locs cells slots) (hx : p.tables.exec = Jvm.exec) (hZ : Z.Warmed39 s.vm) (eT : T.heap = h) (A : own_Av Z h a .byte n f) {j : Int32} {i : Nat} (hj : j.toInt = (i : Int)) (hi : i < n) {g : JFrame} (hg : g.method = m) {rest : List Value} (hs : g.stack = .int j :: .ref a :: rest) (hd : decode c.code g.pc = .ok (.baload, 1)) (target : State)
    (k : Steps p.tables e below (T.setTop { g with pc := g.pc + 1, stack := .int (own_iv (f i)) :: rest }) target) : Steps p.tables e below (T.setTop g) target := by
  obtain ⟨cl, Ar, hsz, hn, hf⟩ := A
  have hat : cl.slots[j.toNatClampNeg]? = some (.int (own_iv (f i))) := by
    rw [own_nat hj, (hf i hi).1]; obtain ⟨x, q⟩ := fit_I (hf i hi).2 (by simp); rw [q]; rfl
  exact X.baloadBytes hx (by rw [eT]; exact Ar.1) (State.isArrayOf_alike hZ.alike Ar.2.1) Ar.2.2 (own_in hsz hj hi) hat hg hs hd target k
theorem own_ldI (X : Stand p l e R s m args below meth c T locs cells slots) (hx : p.tables.exec = Jvm.exec) (hZ : Z.Warmed39 s.vm) (eT : T.heap = h) (A : own_Av Z h a .int n f) {j : Int32} {i : Nat} (hj : j.toInt = (i : Int)) (hi : i < n) {g : JFrame} (hg : g.method = m) {rest : List Value} (hs : g.stack = .int j :: .ref a :: rest) (hd : decode c.code g.pc = .ok (.iaload, 1)) (target : State)
    (k : Steps p.tables e below (T.setTop { g with pc := g.pc + 1, stack := .int (own_iv (f i)) :: rest }) target) : Steps p.tables e below (T.setTop g) target := by
  obtain ⟨cl, Ar, hsz, hn, hf⟩ := A
  have hat : cl.slots[j.toNatClampNeg]? = some (.int (own_iv (f i))) := by
    rw [own_nat hj, (hf i hi).1]; obtain ⟨x, q⟩ := fit_I (hf i hi).2 (by simp); rw [q]; rfl
  exact X.iaload hx (by rw [eT]; exact Ar.1) (State.isArrayOf_alike hZ.alike Ar.2.1) Ar.2.2 (own_in hsz hj hi) hat hg hs hd target k
theorem own_ldJ (X : Stand p l e R s m args below meth c T locs cells slots) (hx : p.tables.exec = Jvm.exec) (hZ : Z.Warmed39 s.vm) (eT : T.heap = h) (A : own_Av Z h a .long n f) {j : Int32} {i : Nat} (hj : j.toInt = (i : Int)) (hi : i < n) {g : JFrame} (hg : g.method = m) {rest : List Value} (hs : g.stack = .int j :: .ref a :: rest) (hd : decode c.code g.pc = .ok (.laload, 1)) (target : State)
    (k : Steps p.tables e below (T.setTop { g with pc := g.pc + 1, stack := .long (own_jv (f i)) :: rest }) target) : Steps p.tables e below (T.setTop g) target := by
  obtain ⟨cl, Ar, hsz, hn, hf⟩ := A
  have hat : cl.slots[j.toNatClampNeg]? = some (.long (own_jv (f i))) := by
    rw [own_nat hj, (hf i hi).1]; obtain ⟨x, q⟩ := fit_J (hf i hi).2; rw [q]; rfl
  exact X.laload hx (by rw [eT]; exact Ar.1) (State.isArrayOf_alike hZ.alike Ar.2.1) Ar.2.2 (own_in hsz hj hi) hat hg hs hd target k
theorem own_len (X : Stand p l e R s m args below meth c T locs cells slots) (hx : p.tables.exec = Jvm.exec) (hZ : Z.Warmed39 s.vm) (eT : T.heap = h) {ty : FieldType} (A : own_Av Z h a ty n f) {z : Int32} (hz : z.toInt = (n : Int)) {g : JFrame} (hg : g.method = m) {rest : List Value} (hs : g.stack = .ref a :: rest) (hd : decode c.code g.pc = .ok (.arraylength, 1)) (target : State)
    (k : Steps p.tables e below (T.setTop { g with pc := g.pc + 1, stack := .int z :: rest }) target) : Steps p.tables e below (T.setTop g) target := by
  obtain ⟨cl, Ar, hsz, hn, hf⟩ := A
  refine X.arraylength hx (by rw [eT]; exact Ar.1) (State.isArrayOf_alike hZ.alike Ar.2.1) hg hs hd target ?_
  rw [len_of (z := z) (by rw [hsz, own_nat hz]) (own_nn hz)]; exact k
theorem own_stB (X : Stand p l e R s m args below meth c T locs cells slots) (hx : p.tables.exec = Jvm.exec) (hZ : Z.Warmed39 s.vm) (eT : T.heap = h) (A : own_Av Z h a .byte n f) {j x : Int32} {i : Nat} (hj : j.toInt = (i : Int)) (hi : i < n) {g : JFrame} (hg : g.method = m) {rest : List Value} (hs : g.stack = .int x :: .int j :: .ref a :: rest) (hd : decode c.code g.pc = .ok (.bastore, 1)) :
    ∃ T' h', Stand p l e R s m args below meth c T' (locs ++ [⟨a, i⟩]) cells slots ∧ T'.heap = h' ∧ Wr h h' a i (.int (nar .byte x)) ∧ own_Av Z h' a .byte n (own_up f i (.int (nar .byte x))) ∧ ∀ target, Steps p.tables e below (T'.setTop { g with pc := g.pc + 1, stack := rest }) target → Steps p.tables e below (T.setTop g) target := by
  obtain ⟨cl, Ar, hsz, hn, hf⟩ := A
  obtain ⟨T', h', X', e', W, st⟩ := stB X hx hZ eT Ar (own_in hsz hj hi) hg hs hd
  rw [own_nat hj] at X' W
  exact ⟨T', h', X', e', W, own_set Ar hsz hn hf W (fits_nar_byte _) hi, st⟩
theorem own_stI (X : Stand p l e R s m args below meth c T locs cells slots) (hx : p.tables.exec = Jvm.exec) (hZ : Z.Warmed39 s.vm) (eT : T.heap = h) (A : own_Av Z h a .int n f) {j x : Int32} {i : Nat} (hj : j.toInt = (i : Int)) (hi : i < n) {g : JFrame} (hg : g.method = m) {rest : List Value} (hs : g.stack = .int x :: .int j :: .ref a :: rest) (hd : decode c.code g.pc = .ok (.iastore, 1)) :
    ∃ T' h', Stand p l e R s m args below meth c T' (locs ++ [⟨a, i⟩]) cells slots ∧ T'.heap = h' ∧ Wr h h' a i (.int x) ∧ own_Av Z h' a .int n (own_up f i (.int x)) ∧ ∀ target, Steps p.tables e below (T'.setTop { g with pc := g.pc + 1, stack := rest }) target → Steps p.tables e below (T.setTop g) target := by
  obtain ⟨cl, Ar, hsz, hn, hf⟩ := A
  obtain ⟨T', h', X', e', W, st⟩ := stI X hx hZ eT Ar (own_in hsz hj hi) hg hs hd
  rw [own_nat hj] at X' W
  exact ⟨T', h', X', e', W, own_set Ar hsz hn hf W rfl hi, st⟩
theorem own_stJ (X : Stand p l e R s m args below meth c T locs cells slots) (hx : p.tables.exec = Jvm.exec) (hZ : Z.Warmed39 s.vm) (eT : T.heap = h) (A : own_Av Z h a .long n f) {j : Int32} {x : Int64} {i : Nat} (hj : j.toInt = (i : Int)) (hi : i < n) {g : JFrame} (hg : g.method = m) {rest : List Value} (hs : g.stack = .long x :: .int j :: .ref a :: rest) (hd : decode c.code g.pc = .ok (.lastore, 1)) :
    ∃ T' h', Stand p l e R s m args below meth c T' (locs ++ [⟨a, i⟩]) cells slots ∧ T'.heap = h' ∧ Wr h h' a i (.long x) ∧ own_Av Z h' a .long n (own_up f i (.long x)) ∧ ∀ target, Steps p.tables e below (T'.setTop { g with pc := g.pc + 1, stack := rest }) target → Steps p.tables e below (T.setTop g) target := by
  obtain ⟨cl, Ar, hsz, hn, hf⟩ := A
  obtain ⟨T', h', X', e', W, st⟩ := stJ X hx hZ eT Ar (own_in hsz hj hi) hg hs hd
  rw [own_nat hj] at X' W
  exact ⟨T', h', X', e', W, own_set Ar hsz hn hf W rfl hi, st⟩
end OwnArr
def own_wd (x0 x1 x2 x3 : Int32) : Int32 := (((((x0 &&& (255 : Int32)) <<< ((24 : Int32) &&& 31)) ||| ((x1 &&& (255 : Int32)) <<< ((16 : Int32) &&& 31))) ||| ((x2 &&& (255 : Int32)) <<< ((8 : Int32) &&& 31))) ||| (x3 &&& (255 : Int32)))
theorem own_wd_val (x0 x1 x2 x3 : Int32) : ((own_wd x0 x1 x2 x3).toInt - ((x0.toInt % 256) * 16777216 + (x1.toInt % 256) * 65536 + (x2.toInt % 256) * 256 + x3.toInt % 256)) % 4294967296 = 0 := by
  have m0 := c_mask x0 (255 : Int32) 8 (by decide) (by decide)
  have m1 := c_mask x1 (255 : Int32) 8 (by decide) (by decide)
  have m2 := c_mask x2 (255 : Int32) 8 (by decide) (by decide)
  have m3 := c_mask x3 (255 : Int32) 8 (by decide) (by decide)
  rw [own_wd]
  generalize (x0 &&& (255 : Int32)) = y0 at *
  generalize (x1 &&& (255 : Int32)) = y1 at *
  generalize (x2 &&& (255 : Int32)) = y2 at *
  generalize (x3 &&& (255 : Int32)) = y3 at *
  have s0 := c_ishl y0 (24 : Int32) 24 (by decide)
  have s1 := c_ishl y1 (16 : Int32) 16 (by decide)
  have s2 := c_ishl y2 (8 : Int32) 8 (by decide)
  have r0 := rng32 (y0 <<< ((24 : Int32) &&& 31))
  have r1 := rng32 (y1 <<< ((16 : Int32) &&& 31))
  have r2 := rng32 (y2 <<< ((8 : Int32) &&& 31))
  generalize (y0 <<< ((24 : Int32) &&& 31)) = z0 at *
  generalize (y1 <<< ((16 : Int32) &&& 31)) = z1 at *
  generalize (y2 <<< ((8 : Int32) &&& 31)) = z2 at *
  have o1 := c_or z0 z1 24 (by decide) 16777216 (by decide) (by omega) (by omega) (by omega)
  have q1 := rng32 (z0 ||| z1)
  generalize (z0 ||| z1) = w1 at *
  have o2 := c_or w1 z2 16 (by decide) 65536 (by decide) (by omega) (by omega) (by omega)
  have q2 := rng32 (w1 ||| z2)
  generalize (w1 ||| z2) = w2 at *
  have o3 := c_or w2 y3 8 (by decide) 256 (by decide) (by omega) (by omega) (by omega)
  omega
theorem own_add {v : Int32} {i : Nat} {k : Int32} {n : Nat} (h : v.toInt = (i : Int)) (hk : k.toInt = (n : Int)) (hb : i + n < 1000) : (v + k).toInt = ((i + n : Nat) : Int) := by
  have h1 := c_iadd v k
  have h2 := rng32 (v + k)
  omega
def own_uns (x : Int32) : Int64 := (((x % (256 : Int32)) + (256 : Int32)) % (256 : Int32)).toInt64
theorem own_uns_val (x : Int32) : (own_uns x).toInt = x.toInt % 256 := by
  have k : (256 : Int32).toInt = 256 := by decide
  have h3 := c_irem x (256 : Int32) 256 (by decide)
  have h4 := c_iadd (x % (256 : Int32)) (256 : Int32)
  have h5 := rng32 ((x % (256 : Int32)) + (256 : Int32))
  have h6 := c_irem ((x % (256 : Int32)) + (256 : Int32)) (256 : Int32) 256 (by decide)
  rw [own_uns, c_i2l]
  rcases Int.lt_or_le x.toInt 0 with q | q
  · have h3' := h3.2 q
    have h6' := h6.1 (by omega)
    omega
  · have h3' := h3.1 q
    have h6' := h6.1 (by omega)
    omega
def own_exp (p0 p1 p2 p3 : Int32) : Int64 := ((((own_uns p0) * (16777216 : Int64)) + ((own_uns p1) * (65536 : Int64))) + ((own_uns p2) * (256 : Int64))) + (own_uns p3)
theorem own_lmulv (x y : Int64) (K : Int) (hy : y.toInt = K) (h0 : 0 ≤ x.toInt) (h1 : x.toInt < 256) (k0 : 0 ≤ K) (k1 : K ≤ 16777216) : (x * y).toInt = x.toInt * K := by
  have a := c_lmul x y
  have r := rng64 (x * y)
  rw [hy] at a
  have u : x.toInt * K ≤ 256 * 16777216 := Int.mul_le_mul (by omega) k1 k0 (by decide)
  have v : 0 ≤ x.toInt * K := Int.mul_nonneg h0 k0
  generalize (x * y).toInt = z at *
  generalize x.toInt * K = t at *
  clear hy h0 h1 k0 k1
  omega
theorem own_laddv (x y : Int64) (h0 : 0 ≤ x.toInt) (h1 : x.toInt < 1099511627776) (h2 : 0 ≤ y.toInt) (h3 : y.toInt < 1099511627776) : (x + y).toInt = x.toInt + y.toInt := by
  have a := c_ladd x y
  have r := rng64 (x + y)
  generalize (x + y).toInt = z at *
  generalize x.toInt = t at *
  generalize y.toInt = u at *
  omega
theorem own_exp_val (p0 p1 p2 p3 : Int32) : (own_exp p0 p1 p2 p3).toInt = (p0.toInt % 256) * 16777216 + (p1.toInt % 256) * 65536 + (p2.toInt % 256) * 256 + p3.toInt % 256 := by
  have u0 := own_uns_val p0
  have u1 := own_uns_val p1
  have u2 := own_uns_val p2
  have u3 := own_uns_val p3
  have g0 : 0 ≤ p0.toInt % 256 ∧ p0.toInt % 256 < 256 := by omega
  have g1 : 0 ≤ p1.toInt % 256 ∧ p1.toInt % 256 < 256 := by omega
  have g2 : 0 ≤ p2.toInt % 256 ∧ p2.toInt % 256 < 256 := by omega
  have g3 : 0 ≤ p3.toInt % 256 ∧ p3.toInt % 256 < 256 := by omega
  rw [own_exp]
  generalize own_uns p0 = a at *
  generalize own_uns p1 = b at *
  generalize own_uns p2 = c at *
  generalize own_uns p3 = d at *
  rw [← u0] at g0 ⊢
  rw [← u1] at g1 ⊢
  rw [← u2] at g2 ⊢
  rw [← u3] at g3 ⊢
  clear u0 u1 u2 u3
  have m0 := own_lmulv a (16777216 : Int64) 16777216 (by decide) g0.1 g0.2 (by decide) (by decide)
  have m1 := own_lmulv b (65536 : Int64) 65536 (by decide) g1.1 g1.2 (by decide) (by decide)
  have m2 := own_lmulv c (256 : Int64) 256 (by decide) g2.1 g2.2 (by decide) (by decide)
  generalize a * (16777216 : Int64) = a' at *
  generalize b * (65536 : Int64) = b' at *
  generalize c * (256 : Int64) = c' at *
  have s1 := own_laddv a' b' (by omega) (by omega) (by omega) (by omega)
  generalize a' + b' = x1 at *
  have s2 := own_laddv x1 c' (by omega) (by omega) (by omega) (by omega)
  generalize x1 + c' = x2 at *
  have s3 := own_laddv x2 d (by omega) (by omega) (by omega) (by omega)
  rw [s3, s2, s1, m0, m1, m2]
theorem own_off (q : Int32) : ∃ i : Nat, ((q &&& (7 : Int32)) % (5 : Int32)).toInt = (i : Int) ∧ i ≤ 4 := by
  have h1 := c_mask q (7 : Int32) 3 (by decide) (by decide)
  have h2 := (c_irem (q &&& (7 : Int32)) (5 : Int32) 5 (by decide)).1 (by omega)
  exact ⟨((q &&& (7 : Int32)) % (5 : Int32)).toInt.toNat, by omega, by omega⟩
theorem own_ints {W p0 p1 p2 p3 b0 b1 b2 b3 : Int} (h : (W - ((b0 % 256) * 16777216 + (b1 % 256) * 65536 + (b2 % 256) * 256 + b3 % 256)) % 4294967296 = 0)
    (e0 : (b0 - p0) % 256 = 0) (e1 : (b1 - p1) % 256 = 0) (e2 : (b2 - p2) % 256 = 0) (e3 : (b3 - p3) % 256 = 0) : W % 4294967296 = (p0 % 256) * 16777216 + (p1 % 256) * 65536 + (p2 % 256) * 256 + p3 % 256 := by
  have f0 : b0 % 256 = p0 % 256 := by omega
  have f1 : b1 % 256 = p1 % 256 := by omega
  have f2 : b2 % 256 = p2 % 256 := by omega
  have f3 : b3 % 256 = p3 % 256 := by omega
  rw [f0, f1, f2, f3] at h
  have g0 : 0 ≤ p0 % 256 ∧ p0 % 256 < 256 := by omega
  have g1 : 0 ≤ p1 % 256 ∧ p1 % 256 < 256 := by omega
  have g2 : 0 ≤ p2 % 256 ∧ p2 % 256 < 256 := by omega
  have g3 : 0 ≤ p3 % 256 ∧ p3 % 256 < 256 := by omega
  clear e0 e1 e2 e3 f0 f1 f2 f3
  generalize p0 % 256 = a at *
  generalize p1 % 256 = b at *
  generalize p2 % 256 = c at *
  generalize p3 % 256 = d at *
  omega
theorem own_wmod (p0 p1 p2 p3 : Int32) : (own_wd p0.toInt8.toInt32 p1.toInt8.toInt32 p2.toInt8.toInt32 p3.toInt8.toInt32).toInt % 4294967296 = (own_exp p0 p1 p2 p3).toInt := by
  rw [own_exp_val]
  exact own_ints (own_wd_val _ _ _ _) (c_i2b p0).1 (c_i2b p1).1 (c_i2b p2).1 (c_i2b p3).1
theorem own_e1 (p0 p1 p2 p3 : Int32) : own_wd p0.toInt8.toInt32 p1.toInt8.toInt32 p2.toInt8.toInt32 p3.toInt8.toInt32 = (own_exp p0 p1 p2 p3).toInt32 := by
  have h1 := own_wmod p0 p1 p2 p3
  generalize own_wd p0.toInt8.toInt32 p1.toInt8.toInt32 p2.toInt8.toInt32 p3.toInt8.toInt32 = w at *
  generalize own_exp p0 p1 p2 p3 = x at *
  have h3 := c_l2i x
  have h4 := rng32 x.toInt32
  have h5 := rng32 w
  apply Int32.toInt_inj.mp
  omega
theorem own_e2 (p0 p1 p2 p3 : Int32) : ((own_wd p0.toInt8.toInt32 p1.toInt8.toInt32 p2.toInt8.toInt32 p3.toInt8.toInt32).toInt64 &&& (4294967295 : Int64)) = own_exp p0 p1 p2 p3 := by
  have h1 := own_wmod p0 p1 p2 p3
  generalize own_wd p0.toInt8.toInt32 p1.toInt8.toInt32 p2.toInt8.toInt32 p3.toInt8.toInt32 = w at *
  generalize own_exp p0 p1 p2 p3 = x at *
  have h3 := c_maskL w.toInt64 (4294967295 : Int64) 32 (by decide) (by decide)
  rw [c_i2l] at h3
  apply Int64.toInt_inj.mp
  omega
theorem own_rd (f : Nat → Value) (i : Nat) (a b c d : Int32) :
    own_iv (own_up (own_up (own_up (own_up f i (.int a)) (i + 1) (.int b)) (i + 2) (.int c)) (i + 3) (.int d) i) = a ∧
    own_iv (own_up (own_up (own_up (own_up f i (.int a)) (i + 1) (.int b)) (i + 2) (.int c)) (i + 3) (.int d) (i + 1)) = b ∧
    own_iv (own_up (own_up (own_up (own_up f i (.int a)) (i + 1) (.int b)) (i + 2) (.int c)) (i + 3) (.int d) (i + 2)) = c ∧
    own_iv (own_up (own_up (own_up (own_up f i (.int a)) (i + 1) (.int b)) (i + 2) (.int c)) (i + 3) (.int d) (i + 3)) = d := by
  simp [own_up_at, own_iv_int]

theorem own_ef1 (m : MethodId) (p0 : Int32) : entryFrame m #[(.int p0)] 1 = mkF m 0 #[.val (.int p0)] [] := by first | (simp [entryFrame, mkF, argsToLocals, Value.category]; done) | rfl
theorem own_pn1 : plainName "linewarden/service/Sha256WordPinLaw" = true := by first | (simp [plainName, overriddenIn]; done) | decide +kernel
theorem d1_0 : decode method_2_code 0 = .ok (.iload_n 0, 1) := by decide +kernel
theorem d1_1 : decode method_2_code 1 = .ok (.sipush 256, 3) := by decide +kernel
theorem d1_4 : decode method_2_code 4 = .ok (.irem, 1) := by decide +kernel
theorem d1_5 : decode method_2_code 5 = .ok (.sipush 256, 3) := by decide +kernel
theorem d1_8 : decode method_2_code 8 = .ok (.iadd, 1) := by decide +kernel
theorem d1_9 : decode method_2_code 9 = .ok (.sipush 256, 3) := by decide +kernel
theorem d1_12 : decode method_2_code 12 = .ok (.irem, 1) := by decide +kernel
theorem d1_13 : decode method_2_code 13 = .ok (.i2l, 1) := by decide +kernel
theorem d1_14 : decode method_2_code 14 = .ok (.lreturn, 1) := by decide +kernel
def own_Q1 (Z : State) (p0 : Int32) (h0 : Heap) (n0 : Nat) (v : Option Value) (h : Heap) (L : List Loc) : Prop := v = some (.long (own_uns p0)) ∧ Fr n0 L ∧ h = h0
set_option maxRecDepth 65536 in
set_option maxHeartbeats 40000000 in
theorem rm1 (l : Launch) (Z : State) (a0 : Array Value) (hw : ∀ d ∈ tables_1, d.before a0 Z = true) (ws : List Jvm.Cond) (p0 : Int32) (h0 : Heap) (n0 : Nat) (Z0 : n0 ≤ h0.size) :
    MetFree l (⟨"linewarden/service/Sha256WordPinLaw", "unsigned", "(I)J"⟩ : MethodName) (head1 (Jvm.Cond.code (⟨"linewarden/service/Sha256WordPinLaw", "unsigned", "(I)J"⟩ : MethodName) method_2_code 1 (some .long) :: ws) ({ frames := 0, cells := 0, slots := 0, locals := 0 } : Room)) (fun a U => a = #[(.int p0)] ∧ Z.Warmed39 U.vm ∧ U.heap = h0) (fun _ _ _ _ _ => True) (fun _ U o U' => ∃ v L, o = .returned v ∧ own_Q1 Z p0 h0 n0 v U'.heap L ∧ FrameEnd U o U' L ({ frames := 0, cells := 0, slots := 0, locals := 0 } : Room).cells ({ frames := 0, cells := 0, slots := 0, locals := 0 } : Room).slots) := by
  refine own_metfree (Q := own_Q1 Z p0 h0 n0) (plainFor_of_name own_pn1) ?_
  intro p e s m below meth c s₁ X0 hx hby hml hret hown hnm hZ e0 G go fin
  have N0 := Fr.nil n0
  refine go _ (s₁.setTop (mkF m 0 #[.val (.int p0)] [])) (fun t k => castTop (own_ef1 m p0) k) ?_
  refine go _ (s₁.setTop (mkF m 1 #[.val (.int p0)] [(.int p0)])) (fun t k => XS.iloadN X0.here hx rfl (hb hby d1_0) rfl k) ?_
  refine go _ (s₁.setTop (mkF m 4 #[.val (.int p0)] [(.int (256 : Int32)), (.int p0)])) (fun t k => XS.sipush X0.here hx rfl (hb hby d1_1) k) ?_
  refine go _ (s₁.setTop (mkF m 5 #[.val (.int p0)] [(.int (p0 % (256 : Int32)))])) (fun t k => iremM X0 hx rfl (hb hby d1_4) rfl (show (256 : Int32) ≠ 0 from by decide) k) ?_
  refine go _ (s₁.setTop (mkF m 8 #[.val (.int p0)] [(.int (256 : Int32)), (.int (p0 % (256 : Int32)))])) (fun t k => XS.sipush X0.here hx rfl (hb hby d1_5) k) ?_
  refine go _ (s₁.setTop (mkF m 9 #[.val (.int p0)] [(.int ((p0 % (256 : Int32)) + (256 : Int32)))])) (fun t k => XS.iadd X0.here hx rfl (hb hby d1_8) rfl k) ?_
  refine go _ (s₁.setTop (mkF m 12 #[.val (.int p0)] [(.int (256 : Int32)), (.int ((p0 % (256 : Int32)) + (256 : Int32)))])) (fun t k => XS.sipush X0.here hx rfl (hb hby d1_9) k) ?_
  refine go _ (s₁.setTop (mkF m 13 #[.val (.int p0)] [(.int (((p0 % (256 : Int32)) + (256 : Int32)) % (256 : Int32)))])) (fun t k => iremM X0 hx rfl (hb hby d1_12) rfl (show (256 : Int32) ≠ 0 from by decide) k) ?_
  refine go _ (s₁.setTop (mkF m 14 #[.val (.int p0)] [(.long ((((p0 % (256 : Int32)) + (256 : Int32)) % (256 : Int32)).toInt64))])) (fun t k => XS.i2l X0.here hx rfl (hb hby d1_13) rfl k) ?_
  refine fin (some (.long ((((p0 % (256 : Int32)) + (256 : Int32)) % (256 : Int32)).toInt64))) (mkF m 14 #[.val (.int p0)] [(.long ((((p0 % (256 : Int32)) + (256 : Int32)) % (256 : Int32)).toInt64))]) X0 (fun h => by cases h) (fun fs hr => retOut X0 hx (t := .long) hret rfl (Or.inr (Or.inl ⟨rfl, rfl, _, rfl⟩)) (hb hby d1_14) hr) ?_ (by decide) (by decide)
  try rw [e0]
  exact ⟨rfl, N0, rfl⟩
theorem own_ef2 (m : MethodId) (o0 : Addr) (p1 : Int32) : entryFrame m #[(.ref o0), (.int p1)] 2 = mkF m 0 #[.val (.ref o0), .val (.int p1)] [] := by first | (simp [entryFrame, mkF, argsToLocals, Value.category]; done) | rfl
theorem own_pn2 : plainName "linewarden/service/Sha256" = true := by first | (simp [plainName, overriddenIn]; done) | decide +kernel
theorem d2_0 : decode prog_133_method_10_code 0 = .ok (.aload_n 0, 1) := by decide +kernel
theorem d2_1 : decode prog_133_method_10_code 1 = .ok (.iload_n 1, 1) := by decide +kernel
theorem d2_2 : decode prog_133_method_10_code 2 = .ok (.baload, 1) := by decide +kernel
theorem d2_3 : decode prog_133_method_10_code 3 = .ok (.sipush 255, 3) := by decide +kernel
theorem d2_6 : decode prog_133_method_10_code 6 = .ok (.iand, 1) := by decide +kernel
theorem d2_7 : decode prog_133_method_10_code 7 = .ok (.bipush 24, 2) := by decide +kernel
theorem d2_9 : decode prog_133_method_10_code 9 = .ok (.ishl, 1) := by decide +kernel
theorem d2_10 : decode prog_133_method_10_code 10 = .ok (.aload_n 0, 1) := by decide +kernel
theorem d2_11 : decode prog_133_method_10_code 11 = .ok (.iload_n 1, 1) := by decide +kernel
theorem d2_12 : decode prog_133_method_10_code 12 = .ok (.iconst 1, 1) := by decide +kernel
theorem d2_13 : decode prog_133_method_10_code 13 = .ok (.iadd, 1) := by decide +kernel
theorem d2_14 : decode prog_133_method_10_code 14 = .ok (.baload, 1) := by decide +kernel
theorem d2_15 : decode prog_133_method_10_code 15 = .ok (.sipush 255, 3) := by decide +kernel
theorem d2_18 : decode prog_133_method_10_code 18 = .ok (.iand, 1) := by decide +kernel
theorem d2_19 : decode prog_133_method_10_code 19 = .ok (.bipush 16, 2) := by decide +kernel
theorem d2_21 : decode prog_133_method_10_code 21 = .ok (.ishl, 1) := by decide +kernel
theorem d2_22 : decode prog_133_method_10_code 22 = .ok (.ior, 1) := by decide +kernel
theorem d2_23 : decode prog_133_method_10_code 23 = .ok (.aload_n 0, 1) := by decide +kernel
theorem d2_24 : decode prog_133_method_10_code 24 = .ok (.iload_n 1, 1) := by decide +kernel
theorem d2_25 : decode prog_133_method_10_code 25 = .ok (.iconst 2, 1) := by decide +kernel
theorem d2_26 : decode prog_133_method_10_code 26 = .ok (.iadd, 1) := by decide +kernel
theorem d2_27 : decode prog_133_method_10_code 27 = .ok (.baload, 1) := by decide +kernel
theorem d2_28 : decode prog_133_method_10_code 28 = .ok (.sipush 255, 3) := by decide +kernel
theorem d2_31 : decode prog_133_method_10_code 31 = .ok (.iand, 1) := by decide +kernel
theorem d2_32 : decode prog_133_method_10_code 32 = .ok (.bipush 8, 2) := by decide +kernel
theorem d2_34 : decode prog_133_method_10_code 34 = .ok (.ishl, 1) := by decide +kernel
theorem d2_35 : decode prog_133_method_10_code 35 = .ok (.ior, 1) := by decide +kernel
theorem d2_36 : decode prog_133_method_10_code 36 = .ok (.aload_n 0, 1) := by decide +kernel
theorem d2_37 : decode prog_133_method_10_code 37 = .ok (.iload_n 1, 1) := by decide +kernel
theorem d2_38 : decode prog_133_method_10_code 38 = .ok (.iconst 3, 1) := by decide +kernel
theorem d2_39 : decode prog_133_method_10_code 39 = .ok (.iadd, 1) := by decide +kernel
theorem d2_40 : decode prog_133_method_10_code 40 = .ok (.baload, 1) := by decide +kernel
theorem d2_41 : decode prog_133_method_10_code 41 = .ok (.sipush 255, 3) := by decide +kernel
theorem d2_44 : decode prog_133_method_10_code 44 = .ok (.iand, 1) := by decide +kernel
theorem d2_45 : decode prog_133_method_10_code 45 = .ok (.ior, 1) := by decide +kernel
theorem d2_46 : decode prog_133_method_10_code 46 = .ok (.ireturn, 1) := by decide +kernel
def own_Q2 (Z : State) (o0 : Addr) (p1 : Int32) (i : Nat) (f : Nat → Value) (h0 : Heap) (n0 : Nat) (v : Option Value) (h : Heap) (L : List Loc) : Prop := v = some (.int (own_wd (own_iv (f i)) (own_iv (f (i + 1))) (own_iv (f (i + 2))) (own_iv (f (i + 3))))) ∧ Fr n0 L ∧ h = h0
set_option maxRecDepth 65536 in
set_option maxHeartbeats 40000000 in
theorem rm2 (l : Launch) (Z : State) (a0 : Array Value) (hw : ∀ d ∈ tables_1, d.before a0 Z = true) (ws : List Jvm.Cond) (o0 : Addr) (p1 : Int32) (i : Nat) (f : Nat → Value) (h0 : Heap) (n0 : Nat) (Z0 : n0 ≤ h0.size) (PA : own_Av Z h0 o0 .byte 8 f) (Pi : p1.toInt = (i : Int)) (Pl : i ≤ 4) :
    MetFree l (⟨"linewarden/service/Sha256", "word", "([BI)I"⟩ : MethodName) (head1 (Jvm.Cond.code (⟨"linewarden/service/Sha256", "word", "([BI)I"⟩ : MethodName) prog_133_method_10_code 2 (some .int) :: ws) ({ frames := 0, cells := 0, slots := 0, locals := 0 } : Room)) (fun a U => a = #[(.ref o0), (.int p1)] ∧ Z.Warmed39 U.vm ∧ U.heap = h0) (fun _ _ _ _ _ => True) (fun _ U o U' => ∃ v L, o = .returned v ∧ own_Q2 Z o0 p1 i f h0 n0 v U'.heap L ∧ FrameEnd U o U' L ({ frames := 0, cells := 0, slots := 0, locals := 0 } : Room).cells ({ frames := 0, cells := 0, slots := 0, locals := 0 } : Room).slots) := by
  refine own_metfree (Q := own_Q2 Z o0 p1 i f h0 n0) (plainFor_of_name own_pn2) ?_
  intro p e s m below meth c s₁ X0 hx hby hml hret hown hnm hZ e0 G go fin
  have N0 := Fr.nil n0
  refine go _ (s₁.setTop (mkF m 0 #[.val (.ref o0), .val (.int p1)] [])) (fun t k => castTop (own_ef2 m o0 p1) k) ?_
  refine go _ (s₁.setTop (mkF m 1 #[.val (.ref o0), .val (.int p1)] [(.ref o0)])) (fun t k => XS.aloadN X0.here hx rfl (hb hby d2_0) rfl rfl k) ?_
  refine go _ (s₁.setTop (mkF m 2 #[.val (.ref o0), .val (.int p1)] [(.int p1), (.ref o0)])) (fun t k => XS.iloadN X0.here hx rfl (hb hby d2_1) rfl k) ?_
  refine go _ (s₁.setTop (mkF m 3 #[.val (.ref o0), .val (.int p1)] [(.int (own_iv (f i)))])) (fun t k => own_ldB X0 hx hZ e0 PA (i := i) Pi (by omega) (g := (mkF m 2 #[.val (.ref o0), .val (.int p1)] [(.int p1), (.ref o0)])) rfl rfl (hb hby d2_2) _ k) ?_
  refine go _ (s₁.setTop (mkF m 6 #[.val (.ref o0), .val (.int p1)] [(.int (255 : Int32)), (.int (own_iv (f i)))])) (fun t k => XS.sipush X0.here hx rfl (hb hby d2_3) k) ?_
  refine go _ (s₁.setTop (mkF m 7 #[.val (.ref o0), .val (.int p1)] [(.int ((own_iv (f i)) &&& (255 : Int32)))])) (fun t k => XS.iand X0.here hx rfl (hb hby d2_6) rfl k) ?_
  refine go _ (s₁.setTop (mkF m 9 #[.val (.ref o0), .val (.int p1)] [(.int (24 : Int32)), (.int ((own_iv (f i)) &&& (255 : Int32)))])) (fun t k => XS.bipush X0.here hx rfl (hb hby d2_7) k) ?_
  refine go _ (s₁.setTop (mkF m 10 #[.val (.ref o0), .val (.int p1)] [(.int (((own_iv (f i)) &&& (255 : Int32)) <<< ((24 : Int32) &&& 31)))])) (fun t k => XS.ishl X0.here hx rfl (hb hby d2_9) rfl k) ?_
  refine go _ (s₁.setTop (mkF m 11 #[.val (.ref o0), .val (.int p1)] [(.ref o0), (.int (((own_iv (f i)) &&& (255 : Int32)) <<< ((24 : Int32) &&& 31)))])) (fun t k => XS.aloadN X0.here hx rfl (hb hby d2_10) rfl rfl k) ?_
  refine go _ (s₁.setTop (mkF m 12 #[.val (.ref o0), .val (.int p1)] [(.int p1), (.ref o0), (.int (((own_iv (f i)) &&& (255 : Int32)) <<< ((24 : Int32) &&& 31)))])) (fun t k => XS.iloadN X0.here hx rfl (hb hby d2_11) rfl k) ?_
  refine go _ (s₁.setTop (mkF m 13 #[.val (.ref o0), .val (.int p1)] [(.int (1 : Int32)), (.int p1), (.ref o0), (.int (((own_iv (f i)) &&& (255 : Int32)) <<< ((24 : Int32) &&& 31)))])) (fun t k => XS.iconst X0.here hx rfl (hb hby d2_12) k) ?_
  refine go _ (s₁.setTop (mkF m 14 #[.val (.ref o0), .val (.int p1)] [(.int (p1 + (1 : Int32))), (.ref o0), (.int (((own_iv (f i)) &&& (255 : Int32)) <<< ((24 : Int32) &&& 31)))])) (fun t k => XS.iadd X0.here hx rfl (hb hby d2_13) rfl k) ?_
  refine go _ (s₁.setTop (mkF m 15 #[.val (.ref o0), .val (.int p1)] [(.int (own_iv (f (i + 1)))), (.int (((own_iv (f i)) &&& (255 : Int32)) <<< ((24 : Int32) &&& 31)))])) (fun t k => own_ldB X0 hx hZ e0 PA (i := (i + 1)) (own_add Pi (by decide) (by omega)) (by omega) (g := (mkF m 14 #[.val (.ref o0), .val (.int p1)] [(.int (p1 + (1 : Int32))), (.ref o0), (.int (((own_iv (f i)) &&& (255 : Int32)) <<< ((24 : Int32) &&& 31)))])) rfl rfl (hb hby d2_14) _ k) ?_
  refine go _ (s₁.setTop (mkF m 18 #[.val (.ref o0), .val (.int p1)] [(.int (255 : Int32)), (.int (own_iv (f (i + 1)))), (.int (((own_iv (f i)) &&& (255 : Int32)) <<< ((24 : Int32) &&& 31)))])) (fun t k => XS.sipush X0.here hx rfl (hb hby d2_15) k) ?_
  refine go _ (s₁.setTop (mkF m 19 #[.val (.ref o0), .val (.int p1)] [(.int ((own_iv (f (i + 1))) &&& (255 : Int32))), (.int (((own_iv (f i)) &&& (255 : Int32)) <<< ((24 : Int32) &&& 31)))])) (fun t k => XS.iand X0.here hx rfl (hb hby d2_18) rfl k) ?_
  refine go _ (s₁.setTop (mkF m 21 #[.val (.ref o0), .val (.int p1)] [(.int (16 : Int32)), (.int ((own_iv (f (i + 1))) &&& (255 : Int32))), (.int (((own_iv (f i)) &&& (255 : Int32)) <<< ((24 : Int32) &&& 31)))])) (fun t k => XS.bipush X0.here hx rfl (hb hby d2_19) k) ?_
  refine go _ (s₁.setTop (mkF m 22 #[.val (.ref o0), .val (.int p1)] [(.int (((own_iv (f (i + 1))) &&& (255 : Int32)) <<< ((16 : Int32) &&& 31))), (.int (((own_iv (f i)) &&& (255 : Int32)) <<< ((24 : Int32) &&& 31)))])) (fun t k => XS.ishl X0.here hx rfl (hb hby d2_21) rfl k) ?_
  refine go _ (s₁.setTop (mkF m 23 #[.val (.ref o0), .val (.int p1)] [(.int ((((own_iv (f i)) &&& (255 : Int32)) <<< ((24 : Int32) &&& 31)) ||| (((own_iv (f (i + 1))) &&& (255 : Int32)) <<< ((16 : Int32) &&& 31))))])) (fun t k => XS.ior X0.here hx rfl (hb hby d2_22) rfl k) ?_
  refine go _ (s₁.setTop (mkF m 24 #[.val (.ref o0), .val (.int p1)] [(.ref o0), (.int ((((own_iv (f i)) &&& (255 : Int32)) <<< ((24 : Int32) &&& 31)) ||| (((own_iv (f (i + 1))) &&& (255 : Int32)) <<< ((16 : Int32) &&& 31))))])) (fun t k => XS.aloadN X0.here hx rfl (hb hby d2_23) rfl rfl k) ?_
  refine go _ (s₁.setTop (mkF m 25 #[.val (.ref o0), .val (.int p1)] [(.int p1), (.ref o0), (.int ((((own_iv (f i)) &&& (255 : Int32)) <<< ((24 : Int32) &&& 31)) ||| (((own_iv (f (i + 1))) &&& (255 : Int32)) <<< ((16 : Int32) &&& 31))))])) (fun t k => XS.iloadN X0.here hx rfl (hb hby d2_24) rfl k) ?_
  refine go _ (s₁.setTop (mkF m 26 #[.val (.ref o0), .val (.int p1)] [(.int (2 : Int32)), (.int p1), (.ref o0), (.int ((((own_iv (f i)) &&& (255 : Int32)) <<< ((24 : Int32) &&& 31)) ||| (((own_iv (f (i + 1))) &&& (255 : Int32)) <<< ((16 : Int32) &&& 31))))])) (fun t k => XS.iconst X0.here hx rfl (hb hby d2_25) k) ?_
  refine go _ (s₁.setTop (mkF m 27 #[.val (.ref o0), .val (.int p1)] [(.int (p1 + (2 : Int32))), (.ref o0), (.int ((((own_iv (f i)) &&& (255 : Int32)) <<< ((24 : Int32) &&& 31)) ||| (((own_iv (f (i + 1))) &&& (255 : Int32)) <<< ((16 : Int32) &&& 31))))])) (fun t k => XS.iadd X0.here hx rfl (hb hby d2_26) rfl k) ?_
  refine go _ (s₁.setTop (mkF m 28 #[.val (.ref o0), .val (.int p1)] [(.int (own_iv (f (i + 2)))), (.int ((((own_iv (f i)) &&& (255 : Int32)) <<< ((24 : Int32) &&& 31)) ||| (((own_iv (f (i + 1))) &&& (255 : Int32)) <<< ((16 : Int32) &&& 31))))])) (fun t k => own_ldB X0 hx hZ e0 PA (i := (i + 2)) (own_add Pi (by decide) (by omega)) (by omega) (g := (mkF m 27 #[.val (.ref o0), .val (.int p1)] [(.int (p1 + (2 : Int32))), (.ref o0), (.int ((((own_iv (f i)) &&& (255 : Int32)) <<< ((24 : Int32) &&& 31)) ||| (((own_iv (f (i + 1))) &&& (255 : Int32)) <<< ((16 : Int32) &&& 31))))])) rfl rfl (hb hby d2_27) _ k) ?_
  refine go _ (s₁.setTop (mkF m 31 #[.val (.ref o0), .val (.int p1)] [(.int (255 : Int32)), (.int (own_iv (f (i + 2)))), (.int ((((own_iv (f i)) &&& (255 : Int32)) <<< ((24 : Int32) &&& 31)) ||| (((own_iv (f (i + 1))) &&& (255 : Int32)) <<< ((16 : Int32) &&& 31))))])) (fun t k => XS.sipush X0.here hx rfl (hb hby d2_28) k) ?_
  refine go _ (s₁.setTop (mkF m 32 #[.val (.ref o0), .val (.int p1)] [(.int ((own_iv (f (i + 2))) &&& (255 : Int32))), (.int ((((own_iv (f i)) &&& (255 : Int32)) <<< ((24 : Int32) &&& 31)) ||| (((own_iv (f (i + 1))) &&& (255 : Int32)) <<< ((16 : Int32) &&& 31))))])) (fun t k => XS.iand X0.here hx rfl (hb hby d2_31) rfl k) ?_
  refine go _ (s₁.setTop (mkF m 34 #[.val (.ref o0), .val (.int p1)] [(.int (8 : Int32)), (.int ((own_iv (f (i + 2))) &&& (255 : Int32))), (.int ((((own_iv (f i)) &&& (255 : Int32)) <<< ((24 : Int32) &&& 31)) ||| (((own_iv (f (i + 1))) &&& (255 : Int32)) <<< ((16 : Int32) &&& 31))))])) (fun t k => XS.bipush X0.here hx rfl (hb hby d2_32) k) ?_
  refine go _ (s₁.setTop (mkF m 35 #[.val (.ref o0), .val (.int p1)] [(.int (((own_iv (f (i + 2))) &&& (255 : Int32)) <<< ((8 : Int32) &&& 31))), (.int ((((own_iv (f i)) &&& (255 : Int32)) <<< ((24 : Int32) &&& 31)) ||| (((own_iv (f (i + 1))) &&& (255 : Int32)) <<< ((16 : Int32) &&& 31))))])) (fun t k => XS.ishl X0.here hx rfl (hb hby d2_34) rfl k) ?_
  refine go _ (s₁.setTop (mkF m 36 #[.val (.ref o0), .val (.int p1)] [(.int (((((own_iv (f i)) &&& (255 : Int32)) <<< ((24 : Int32) &&& 31)) ||| (((own_iv (f (i + 1))) &&& (255 : Int32)) <<< ((16 : Int32) &&& 31))) ||| (((own_iv (f (i + 2))) &&& (255 : Int32)) <<< ((8 : Int32) &&& 31))))])) (fun t k => XS.ior X0.here hx rfl (hb hby d2_35) rfl k) ?_
  refine go _ (s₁.setTop (mkF m 37 #[.val (.ref o0), .val (.int p1)] [(.ref o0), (.int (((((own_iv (f i)) &&& (255 : Int32)) <<< ((24 : Int32) &&& 31)) ||| (((own_iv (f (i + 1))) &&& (255 : Int32)) <<< ((16 : Int32) &&& 31))) ||| (((own_iv (f (i + 2))) &&& (255 : Int32)) <<< ((8 : Int32) &&& 31))))])) (fun t k => XS.aloadN X0.here hx rfl (hb hby d2_36) rfl rfl k) ?_
  refine go _ (s₁.setTop (mkF m 38 #[.val (.ref o0), .val (.int p1)] [(.int p1), (.ref o0), (.int (((((own_iv (f i)) &&& (255 : Int32)) <<< ((24 : Int32) &&& 31)) ||| (((own_iv (f (i + 1))) &&& (255 : Int32)) <<< ((16 : Int32) &&& 31))) ||| (((own_iv (f (i + 2))) &&& (255 : Int32)) <<< ((8 : Int32) &&& 31))))])) (fun t k => XS.iloadN X0.here hx rfl (hb hby d2_37) rfl k) ?_
  refine go _ (s₁.setTop (mkF m 39 #[.val (.ref o0), .val (.int p1)] [(.int (3 : Int32)), (.int p1), (.ref o0), (.int (((((own_iv (f i)) &&& (255 : Int32)) <<< ((24 : Int32) &&& 31)) ||| (((own_iv (f (i + 1))) &&& (255 : Int32)) <<< ((16 : Int32) &&& 31))) ||| (((own_iv (f (i + 2))) &&& (255 : Int32)) <<< ((8 : Int32) &&& 31))))])) (fun t k => XS.iconst X0.here hx rfl (hb hby d2_38) k) ?_
  refine go _ (s₁.setTop (mkF m 40 #[.val (.ref o0), .val (.int p1)] [(.int (p1 + (3 : Int32))), (.ref o0), (.int (((((own_iv (f i)) &&& (255 : Int32)) <<< ((24 : Int32) &&& 31)) ||| (((own_iv (f (i + 1))) &&& (255 : Int32)) <<< ((16 : Int32) &&& 31))) ||| (((own_iv (f (i + 2))) &&& (255 : Int32)) <<< ((8 : Int32) &&& 31))))])) (fun t k => XS.iadd X0.here hx rfl (hb hby d2_39) rfl k) ?_
  refine go _ (s₁.setTop (mkF m 41 #[.val (.ref o0), .val (.int p1)] [(.int (own_iv (f (i + 3)))), (.int (((((own_iv (f i)) &&& (255 : Int32)) <<< ((24 : Int32) &&& 31)) ||| (((own_iv (f (i + 1))) &&& (255 : Int32)) <<< ((16 : Int32) &&& 31))) ||| (((own_iv (f (i + 2))) &&& (255 : Int32)) <<< ((8 : Int32) &&& 31))))])) (fun t k => own_ldB X0 hx hZ e0 PA (i := (i + 3)) (own_add Pi (by decide) (by omega)) (by omega) (g := (mkF m 40 #[.val (.ref o0), .val (.int p1)] [(.int (p1 + (3 : Int32))), (.ref o0), (.int (((((own_iv (f i)) &&& (255 : Int32)) <<< ((24 : Int32) &&& 31)) ||| (((own_iv (f (i + 1))) &&& (255 : Int32)) <<< ((16 : Int32) &&& 31))) ||| (((own_iv (f (i + 2))) &&& (255 : Int32)) <<< ((8 : Int32) &&& 31))))])) rfl rfl (hb hby d2_40) _ k) ?_
  refine go _ (s₁.setTop (mkF m 44 #[.val (.ref o0), .val (.int p1)] [(.int (255 : Int32)), (.int (own_iv (f (i + 3)))), (.int (((((own_iv (f i)) &&& (255 : Int32)) <<< ((24 : Int32) &&& 31)) ||| (((own_iv (f (i + 1))) &&& (255 : Int32)) <<< ((16 : Int32) &&& 31))) ||| (((own_iv (f (i + 2))) &&& (255 : Int32)) <<< ((8 : Int32) &&& 31))))])) (fun t k => XS.sipush X0.here hx rfl (hb hby d2_41) k) ?_
  refine go _ (s₁.setTop (mkF m 45 #[.val (.ref o0), .val (.int p1)] [(.int ((own_iv (f (i + 3))) &&& (255 : Int32))), (.int (((((own_iv (f i)) &&& (255 : Int32)) <<< ((24 : Int32) &&& 31)) ||| (((own_iv (f (i + 1))) &&& (255 : Int32)) <<< ((16 : Int32) &&& 31))) ||| (((own_iv (f (i + 2))) &&& (255 : Int32)) <<< ((8 : Int32) &&& 31))))])) (fun t k => XS.iand X0.here hx rfl (hb hby d2_44) rfl k) ?_
  refine go _ (s₁.setTop (mkF m 46 #[.val (.ref o0), .val (.int p1)] [(.int ((((((own_iv (f i)) &&& (255 : Int32)) <<< ((24 : Int32) &&& 31)) ||| (((own_iv (f (i + 1))) &&& (255 : Int32)) <<< ((16 : Int32) &&& 31))) ||| (((own_iv (f (i + 2))) &&& (255 : Int32)) <<< ((8 : Int32) &&& 31))) ||| ((own_iv (f (i + 3))) &&& (255 : Int32))))])) (fun t k => XS.ior X0.here hx rfl (hb hby d2_45) rfl k) ?_
  refine fin (some (.int ((((((own_iv (f i)) &&& (255 : Int32)) <<< ((24 : Int32) &&& 31)) ||| (((own_iv (f (i + 1))) &&& (255 : Int32)) <<< ((16 : Int32) &&& 31))) ||| (((own_iv (f (i + 2))) &&& (255 : Int32)) <<< ((8 : Int32) &&& 31))) ||| ((own_iv (f (i + 3))) &&& (255 : Int32))))) (mkF m 46 #[.val (.ref o0), .val (.int p1)] [(.int ((((((own_iv (f i)) &&& (255 : Int32)) <<< ((24 : Int32) &&& 31)) ||| (((own_iv (f (i + 1))) &&& (255 : Int32)) <<< ((16 : Int32) &&& 31))) ||| (((own_iv (f (i + 2))) &&& (255 : Int32)) <<< ((8 : Int32) &&& 31))) ||| ((own_iv (f (i + 3))) &&& (255 : Int32))))]) X0 (fun h => by cases h) (fun fs hr => retOut X0 hx (t := .int) hret rfl (Or.inl ⟨rfl, by simp, _, rfl⟩) (hb hby d2_46) hr) ?_ (by decide) (by decide)
  try rw [e0]
  exact ⟨rfl, N0, rfl⟩
theorem own_ef0 (m : MethodId) (p0 : Int32) (p1 : Int32) (p2 : Int32) (p3 : Int32) (p4 : Int32) (p5 : Int32) : entryFrame m #[(.int p0), (.int p1), (.int p2), (.int p3), (.int p4), (.int p5)] maxLocals = mkF m 0 #[.val (.int p0), .val (.int p1), .val (.int p2), .val (.int p3), .val (.int p4), .val (.int p5), .unset, .unset, .unset, .unset, .unset] [] := by first | (simp [entryFrame, mkF, argsToLocals, Value.category, maxLocals]; done) | rfl
theorem own_pn0 : plainName "linewarden/service/Sha256WordPinLaw" = true := by first | (simp [plainName, overriddenIn]; done) | decide +kernel
theorem own_pd_0 : parseMethodDescriptor "(I)J" = some ⟨[.int], some .long⟩ := by decide +kernel
theorem own_pd_1 : parseMethodDescriptor "([BI)I" = some ⟨[(.array .byte), .int], some .int⟩ := by decide +kernel
def own_Q0 (Z : State) (p0 : Int32) (p1 : Int32) (p2 : Int32) (p3 : Int32) (p4 : Int32) (p5 : Int32) (h0 : Heap) (n0 : Nat) (v : Option Value) (h : Heap) (L : List Loc) : Prop := v = some (.int 1) ∧ Fr n0 L
set_option maxRecDepth 65536 in
set_option maxHeartbeats 40000000 in
theorem rm0 (l : Launch) (Z : State) (a0 : Array Value) (hw : ∀ d ∈ tables_1, d.before a0 Z = true) (ws : List Jvm.Cond) (p0 : Int32) (p1 : Int32) (p2 : Int32) (p3 : Int32) (p4 : Int32) (p5 : Int32) (h0 : Heap) (n0 : Nat) (Z0 : n0 ≤ h0.size) :
    MetFree l x (head1 (Jvm.Cond.code x code maxLocals ret :: ws) room_1) (fun a U => a = #[(.int p0), (.int p1), (.int p2), (.int p3), (.int p4), (.int p5)] ∧ Z.Warmed39 U.vm ∧ U.heap = h0) (fun _ _ _ _ _ => True) (fun _ U o U' => ∃ v L, o = .returned v ∧ own_Q0 Z p0 p1 p2 p3 p4 p5 h0 n0 v U'.heap L ∧ FrameEnd U o U' L room_1.cells room_1.slots) := by
  refine own_metfree (Q := own_Q0 Z p0 p1 p2 p3 p4 p5 h0 n0) (plainFor_of_name own_pn0) ?_
  intro p e s m below meth c s₁ X0 hx hby hml hret hown hnm hZ e0 G go fin
  have N0 := Fr.nil n0
  refine go _ (s₁.setTop (mkF m 0 #[.val (.int p0), .val (.int p1), .val (.int p2), .val (.int p3), .val (.int p4), .val (.int p5), .unset, .unset, .unset, .unset, .unset] [])) (fun t k => castTop (own_ef0 m p0 p1 p2 p3 p4 p5) k) ?_
  refine go _ (s₁.setTop (mkF m 2 #[.val (.int p0), .val (.int p1), .val (.int p2), .val (.int p3), .val (.int p4), .val (.int p5), .unset, .unset, .unset, .unset, .unset] [(.int (8 : Int32))])) (fun t k => XS.bipush X0.here hx rfl (hb hby at_0) k) ?_
  obtain ⟨T1, h1, kk1, X1, e1, E1, Ar1, Ax1, st1⟩ := newPE X0 hx hZ (hw _ (List.mem_of_getElem? (i := 0) rfl)) e0 (g := (mkF m 2 #[.val (.int p0), .val (.int p1), .val (.int p2), .val (.int p3), .val (.int p4), .val (.int p5), .unset, .unset, .unset, .unset, .unset] [(.int (8 : Int32))])) rfl (hb hby at_2) rfl (by decide) (cap := 8) (by decide) (by decide) (by decide) (by decide) (ad := "[B") (by first | rfl | decide)
  obtain ⟨b1, gb1⟩ : ∃ z, z = h0.size := ⟨_, rfl⟩
  rw [← gb1] at Ar1 Ax1 st1
  have g_b1 : n0 ≤ b1 := Nat.le_trans Z0 (Nat.le_of_eq gb1.symm)
  have sz_b1 : h0.size ≤ b1 := (Nat.le_of_eq gb1.symm)
  have Av1 : own_Av Z h1 b1 .byte 8 (fun _ => (.int 0)) := own_Av.new Ar1 (by decide) (by decide)
  refine go _ (T1.setTop (mkF m 4 #[.val (.int p0), .val (.int p1), .val (.int p2), .val (.int p3), .val (.int p4), .val (.int p5), .unset, .unset, .unset, .unset, .unset] [(.ref b1)])) st1 ?_
  refine go _ (T1.setTop (mkF m 6 #[.val (.int p0), .val (.int p1), .val (.int p2), .val (.int p3), .val (.int p4), .val (.int p5), .val (.ref b1), .unset, .unset, .unset, .unset] [])) (fun t k => XS.astore X1.here hx rfl (hb hby at_4) rfl rfl (l' := #[.val (.int p0), .val (.int p1), .val (.int p2), .val (.int p3), .val (.int p4), .val (.int p5), .val (.ref b1), .unset, .unset, .unset, .unset]) rfl k) ?_
  refine go _ (T1.setTop (mkF m 8 #[.val (.int p0), .val (.int p1), .val (.int p2), .val (.int p3), .val (.int p4), .val (.int p5), .val (.ref b1), .unset, .unset, .unset, .unset] [(.ref b1)])) (fun t k => XS.aload X1.here hx rfl (hb hby at_6) rfl rfl k) ?_
  refine go _ (T1.setTop (mkF m 9 #[.val (.int p0), .val (.int p1), .val (.int p2), .val (.int p3), .val (.int p4), .val (.int p5), .val (.ref b1), .unset, .unset, .unset, .unset] [(.int (0 : Int32)), (.ref b1)])) (fun t k => XS.iconst X1.here hx rfl (hb hby at_8) k) ?_
  refine go _ (T1.setTop (mkF m 11 #[.val (.int p0), .val (.int p1), .val (.int p2), .val (.int p3), .val (.int p4), .val (.int p5), .val (.ref b1), .unset, .unset, .unset, .unset] [(.int p4), (.int (0 : Int32)), (.ref b1)])) (fun t k => XS.iload X1.here hx rfl (hb hby at_9) rfl k) ?_
  refine go _ (T1.setTop (mkF m 12 #[.val (.int p0), .val (.int p1), .val (.int p2), .val (.int p3), .val (.int p4), .val (.int p5), .val (.ref b1), .unset, .unset, .unset, .unset] [(.int (p4.toInt8.toInt32)), (.int (0 : Int32)), (.ref b1)])) (fun t k => XS.i2b X1.here hx rfl (hb hby at_11) rfl k) ?_
  obtain ⟨T2, h2, X2, e2, W2, Av2, st2⟩ := own_stB X1 hx hZ e1 Av1 (i := 0) (by decide) (by decide) (g := (mkF m 12 #[.val (.int p0), .val (.int p1), .val (.int p2), .val (.int p3), .val (.int p4), .val (.int p5), .val (.ref b1), .unset, .unset, .unset, .unset] [(.int (p4.toInt8.toInt32)), (.int (0 : Int32)), (.ref b1)])) rfl rfl (hb hby at_12)
  rw [own_nar8] at Av2
  have N2 := Fr.snoc X2 N0 g_b1
  refine go _ (T2.setTop (mkF m 13 #[.val (.int p0), .val (.int p1), .val (.int p2), .val (.int p3), .val (.int p4), .val (.int p5), .val (.ref b1), .unset, .unset, .unset, .unset] [])) st2 ?_
  refine go _ (T2.setTop (mkF m 15 #[.val (.int p0), .val (.int p1), .val (.int p2), .val (.int p3), .val (.int p4), .val (.int p5), .val (.ref b1), .unset, .unset, .unset, .unset] [(.ref b1)])) (fun t k => XS.aload X2.here hx rfl (hb hby at_13) rfl rfl k) ?_
  refine go _ (T2.setTop (mkF m 16 #[.val (.int p0), .val (.int p1), .val (.int p2), .val (.int p3), .val (.int p4), .val (.int p5), .val (.ref b1), .unset, .unset, .unset, .unset] [(.int (1 : Int32)), (.ref b1)])) (fun t k => XS.iconst X2.here hx rfl (hb hby at_15) k) ?_
  refine go _ (T2.setTop (mkF m 18 #[.val (.int p0), .val (.int p1), .val (.int p2), .val (.int p3), .val (.int p4), .val (.int p5), .val (.ref b1), .unset, .unset, .unset, .unset] [(.int p4), (.int (1 : Int32)), (.ref b1)])) (fun t k => XS.iload X2.here hx rfl (hb hby at_16) rfl k) ?_
  refine go _ (T2.setTop (mkF m 19 #[.val (.int p0), .val (.int p1), .val (.int p2), .val (.int p3), .val (.int p4), .val (.int p5), .val (.ref b1), .unset, .unset, .unset, .unset] [(.int (4 : Int32)), (.int p4), (.int (1 : Int32)), (.ref b1)])) (fun t k => XS.iconst X2.here hx rfl (hb hby at_18) k) ?_
  refine go _ (T2.setTop (mkF m 20 #[.val (.int p0), .val (.int p1), .val (.int p2), .val (.int p3), .val (.int p4), .val (.int p5), .val (.ref b1), .unset, .unset, .unset, .unset] [(.int ((p4.toUInt32 >>> ((4 : Int32) &&& 31).toUInt32).toInt32)), (.int (1 : Int32)), (.ref b1)])) (fun t k => XS.iushr X2.here hx rfl (hb hby at_19) rfl k) ?_
  refine go _ (T2.setTop (mkF m 21 #[.val (.int p0), .val (.int p1), .val (.int p2), .val (.int p3), .val (.int p4), .val (.int p5), .val (.ref b1), .unset, .unset, .unset, .unset] [(.int (((p4.toUInt32 >>> ((4 : Int32) &&& 31).toUInt32).toInt32).toInt8.toInt32)), (.int (1 : Int32)), (.ref b1)])) (fun t k => XS.i2b X2.here hx rfl (hb hby at_20) rfl k) ?_
  obtain ⟨T3, h3, X3, e3, W3, Av3, st3⟩ := own_stB X2 hx hZ e2 Av2 (i := 1) (by decide) (by decide) (g := (mkF m 21 #[.val (.int p0), .val (.int p1), .val (.int p2), .val (.int p3), .val (.int p4), .val (.int p5), .val (.ref b1), .unset, .unset, .unset, .unset] [(.int (((p4.toUInt32 >>> ((4 : Int32) &&& 31).toUInt32).toInt32).toInt8.toInt32)), (.int (1 : Int32)), (.ref b1)])) rfl rfl (hb hby at_21)
  rw [own_nar8] at Av3
  have N3 := Fr.snoc X3 N2 g_b1
  refine go _ (T3.setTop (mkF m 22 #[.val (.int p0), .val (.int p1), .val (.int p2), .val (.int p3), .val (.int p4), .val (.int p5), .val (.ref b1), .unset, .unset, .unset, .unset] [])) st3 ?_
  refine go _ (T3.setTop (mkF m 24 #[.val (.int p0), .val (.int p1), .val (.int p2), .val (.int p3), .val (.int p4), .val (.int p5), .val (.ref b1), .unset, .unset, .unset, .unset] [(.ref b1)])) (fun t k => XS.aload X3.here hx rfl (hb hby at_22) rfl rfl k) ?_
  refine go _ (T3.setTop (mkF m 25 #[.val (.int p0), .val (.int p1), .val (.int p2), .val (.int p3), .val (.int p4), .val (.int p5), .val (.ref b1), .unset, .unset, .unset, .unset] [(.int (2 : Int32)), (.ref b1)])) (fun t k => XS.iconst X3.here hx rfl (hb hby at_24) k) ?_
  refine go _ (T3.setTop (mkF m 27 #[.val (.int p0), .val (.int p1), .val (.int p2), .val (.int p3), .val (.int p4), .val (.int p5), .val (.ref b1), .unset, .unset, .unset, .unset] [(.int p4), (.int (2 : Int32)), (.ref b1)])) (fun t k => XS.iload X3.here hx rfl (hb hby at_25) rfl k) ?_
  refine go _ (T3.setTop (mkF m 29 #[.val (.int p0), .val (.int p1), .val (.int p2), .val (.int p3), .val (.int p4), .val (.int p5), .val (.ref b1), .unset, .unset, .unset, .unset] [(.int (8 : Int32)), (.int p4), (.int (2 : Int32)), (.ref b1)])) (fun t k => XS.bipush X3.here hx rfl (hb hby at_27) k) ?_
  refine go _ (T3.setTop (mkF m 30 #[.val (.int p0), .val (.int p1), .val (.int p2), .val (.int p3), .val (.int p4), .val (.int p5), .val (.ref b1), .unset, .unset, .unset, .unset] [(.int ((p4.toUInt32 >>> ((8 : Int32) &&& 31).toUInt32).toInt32)), (.int (2 : Int32)), (.ref b1)])) (fun t k => XS.iushr X3.here hx rfl (hb hby at_29) rfl k) ?_
  refine go _ (T3.setTop (mkF m 31 #[.val (.int p0), .val (.int p1), .val (.int p2), .val (.int p3), .val (.int p4), .val (.int p5), .val (.ref b1), .unset, .unset, .unset, .unset] [(.int (((p4.toUInt32 >>> ((8 : Int32) &&& 31).toUInt32).toInt32).toInt8.toInt32)), (.int (2 : Int32)), (.ref b1)])) (fun t k => XS.i2b X3.here hx rfl (hb hby at_30) rfl k) ?_
  obtain ⟨T4, h4, X4, e4, W4, Av4, st4⟩ := own_stB X3 hx hZ e3 Av3 (i := 2) (by decide) (by decide) (g := (mkF m 31 #[.val (.int p0), .val (.int p1), .val (.int p2), .val (.int p3), .val (.int p4), .val (.int p5), .val (.ref b1), .unset, .unset, .unset, .unset] [(.int (((p4.toUInt32 >>> ((8 : Int32) &&& 31).toUInt32).toInt32).toInt8.toInt32)), (.int (2 : Int32)), (.ref b1)])) rfl rfl (hb hby at_31)
  rw [own_nar8] at Av4
  have N4 := Fr.snoc X4 N3 g_b1
  refine go _ (T4.setTop (mkF m 32 #[.val (.int p0), .val (.int p1), .val (.int p2), .val (.int p3), .val (.int p4), .val (.int p5), .val (.ref b1), .unset, .unset, .unset, .unset] [])) st4 ?_
  refine go _ (T4.setTop (mkF m 34 #[.val (.int p0), .val (.int p1), .val (.int p2), .val (.int p3), .val (.int p4), .val (.int p5), .val (.ref b1), .unset, .unset, .unset, .unset] [(.ref b1)])) (fun t k => XS.aload X4.here hx rfl (hb hby at_32) rfl rfl k) ?_
  refine go _ (T4.setTop (mkF m 35 #[.val (.int p0), .val (.int p1), .val (.int p2), .val (.int p3), .val (.int p4), .val (.int p5), .val (.ref b1), .unset, .unset, .unset, .unset] [(.int (3 : Int32)), (.ref b1)])) (fun t k => XS.iconst X4.here hx rfl (hb hby at_34) k) ?_
  refine go _ (T4.setTop (mkF m 37 #[.val (.int p0), .val (.int p1), .val (.int p2), .val (.int p3), .val (.int p4), .val (.int p5), .val (.ref b1), .unset, .unset, .unset, .unset] [(.int p4), (.int (3 : Int32)), (.ref b1)])) (fun t k => XS.iload X4.here hx rfl (hb hby at_35) rfl k) ?_
  refine go _ (T4.setTop (mkF m 39 #[.val (.int p0), .val (.int p1), .val (.int p2), .val (.int p3), .val (.int p4), .val (.int p5), .val (.ref b1), .unset, .unset, .unset, .unset] [(.int (12 : Int32)), (.int p4), (.int (3 : Int32)), (.ref b1)])) (fun t k => XS.bipush X4.here hx rfl (hb hby at_37) k) ?_
  refine go _ (T4.setTop (mkF m 40 #[.val (.int p0), .val (.int p1), .val (.int p2), .val (.int p3), .val (.int p4), .val (.int p5), .val (.ref b1), .unset, .unset, .unset, .unset] [(.int ((p4.toUInt32 >>> ((12 : Int32) &&& 31).toUInt32).toInt32)), (.int (3 : Int32)), (.ref b1)])) (fun t k => XS.iushr X4.here hx rfl (hb hby at_39) rfl k) ?_
  refine go _ (T4.setTop (mkF m 41 #[.val (.int p0), .val (.int p1), .val (.int p2), .val (.int p3), .val (.int p4), .val (.int p5), .val (.ref b1), .unset, .unset, .unset, .unset] [(.int (((p4.toUInt32 >>> ((12 : Int32) &&& 31).toUInt32).toInt32).toInt8.toInt32)), (.int (3 : Int32)), (.ref b1)])) (fun t k => XS.i2b X4.here hx rfl (hb hby at_40) rfl k) ?_
  obtain ⟨T5, h5, X5, e5, W5, Av5, st5⟩ := own_stB X4 hx hZ e4 Av4 (i := 3) (by decide) (by decide) (g := (mkF m 41 #[.val (.int p0), .val (.int p1), .val (.int p2), .val (.int p3), .val (.int p4), .val (.int p5), .val (.ref b1), .unset, .unset, .unset, .unset] [(.int (((p4.toUInt32 >>> ((12 : Int32) &&& 31).toUInt32).toInt32).toInt8.toInt32)), (.int (3 : Int32)), (.ref b1)])) rfl rfl (hb hby at_41)
  rw [own_nar8] at Av5
  have N5 := Fr.snoc X5 N4 g_b1
  refine go _ (T5.setTop (mkF m 42 #[.val (.int p0), .val (.int p1), .val (.int p2), .val (.int p3), .val (.int p4), .val (.int p5), .val (.ref b1), .unset, .unset, .unset, .unset] [])) st5 ?_
  refine go _ (T5.setTop (mkF m 44 #[.val (.int p0), .val (.int p1), .val (.int p2), .val (.int p3), .val (.int p4), .val (.int p5), .val (.ref b1), .unset, .unset, .unset, .unset] [(.ref b1)])) (fun t k => XS.aload X5.here hx rfl (hb hby at_42) rfl rfl k) ?_
  refine go _ (T5.setTop (mkF m 45 #[.val (.int p0), .val (.int p1), .val (.int p2), .val (.int p3), .val (.int p4), .val (.int p5), .val (.ref b1), .unset, .unset, .unset, .unset] [(.int (4 : Int32)), (.ref b1)])) (fun t k => XS.iconst X5.here hx rfl (hb hby at_44) k) ?_
  refine go _ (T5.setTop (mkF m 47 #[.val (.int p0), .val (.int p1), .val (.int p2), .val (.int p3), .val (.int p4), .val (.int p5), .val (.ref b1), .unset, .unset, .unset, .unset] [(.int p4), (.int (4 : Int32)), (.ref b1)])) (fun t k => XS.iload X5.here hx rfl (hb hby at_45) rfl k) ?_
  refine go _ (T5.setTop (mkF m 49 #[.val (.int p0), .val (.int p1), .val (.int p2), .val (.int p3), .val (.int p4), .val (.int p5), .val (.ref b1), .unset, .unset, .unset, .unset] [(.int (16 : Int32)), (.int p4), (.int (4 : Int32)), (.ref b1)])) (fun t k => XS.bipush X5.here hx rfl (hb hby at_47) k) ?_
  refine go _ (T5.setTop (mkF m 50 #[.val (.int p0), .val (.int p1), .val (.int p2), .val (.int p3), .val (.int p4), .val (.int p5), .val (.ref b1), .unset, .unset, .unset, .unset] [(.int ((p4.toUInt32 >>> ((16 : Int32) &&& 31).toUInt32).toInt32)), (.int (4 : Int32)), (.ref b1)])) (fun t k => XS.iushr X5.here hx rfl (hb hby at_49) rfl k) ?_
  refine go _ (T5.setTop (mkF m 51 #[.val (.int p0), .val (.int p1), .val (.int p2), .val (.int p3), .val (.int p4), .val (.int p5), .val (.ref b1), .unset, .unset, .unset, .unset] [(.int (((p4.toUInt32 >>> ((16 : Int32) &&& 31).toUInt32).toInt32).toInt8.toInt32)), (.int (4 : Int32)), (.ref b1)])) (fun t k => XS.i2b X5.here hx rfl (hb hby at_50) rfl k) ?_
  obtain ⟨T6, h6, X6, e6, W6, Av6, st6⟩ := own_stB X5 hx hZ e5 Av5 (i := 4) (by decide) (by decide) (g := (mkF m 51 #[.val (.int p0), .val (.int p1), .val (.int p2), .val (.int p3), .val (.int p4), .val (.int p5), .val (.ref b1), .unset, .unset, .unset, .unset] [(.int (((p4.toUInt32 >>> ((16 : Int32) &&& 31).toUInt32).toInt32).toInt8.toInt32)), (.int (4 : Int32)), (.ref b1)])) rfl rfl (hb hby at_51)
  rw [own_nar8] at Av6
  have N6 := Fr.snoc X6 N5 g_b1
  refine go _ (T6.setTop (mkF m 52 #[.val (.int p0), .val (.int p1), .val (.int p2), .val (.int p3), .val (.int p4), .val (.int p5), .val (.ref b1), .unset, .unset, .unset, .unset] [])) st6 ?_
  refine go _ (T6.setTop (mkF m 54 #[.val (.int p0), .val (.int p1), .val (.int p2), .val (.int p3), .val (.int p4), .val (.int p5), .val (.ref b1), .unset, .unset, .unset, .unset] [(.ref b1)])) (fun t k => XS.aload X6.here hx rfl (hb hby at_52) rfl rfl k) ?_
  refine go _ (T6.setTop (mkF m 55 #[.val (.int p0), .val (.int p1), .val (.int p2), .val (.int p3), .val (.int p4), .val (.int p5), .val (.ref b1), .unset, .unset, .unset, .unset] [(.int (5 : Int32)), (.ref b1)])) (fun t k => XS.iconst X6.here hx rfl (hb hby at_54) k) ?_
  refine go _ (T6.setTop (mkF m 57 #[.val (.int p0), .val (.int p1), .val (.int p2), .val (.int p3), .val (.int p4), .val (.int p5), .val (.ref b1), .unset, .unset, .unset, .unset] [(.int p4), (.int (5 : Int32)), (.ref b1)])) (fun t k => XS.iload X6.here hx rfl (hb hby at_55) rfl k) ?_
  refine go _ (T6.setTop (mkF m 59 #[.val (.int p0), .val (.int p1), .val (.int p2), .val (.int p3), .val (.int p4), .val (.int p5), .val (.ref b1), .unset, .unset, .unset, .unset] [(.int (20 : Int32)), (.int p4), (.int (5 : Int32)), (.ref b1)])) (fun t k => XS.bipush X6.here hx rfl (hb hby at_57) k) ?_
  refine go _ (T6.setTop (mkF m 60 #[.val (.int p0), .val (.int p1), .val (.int p2), .val (.int p3), .val (.int p4), .val (.int p5), .val (.ref b1), .unset, .unset, .unset, .unset] [(.int ((p4.toUInt32 >>> ((20 : Int32) &&& 31).toUInt32).toInt32)), (.int (5 : Int32)), (.ref b1)])) (fun t k => XS.iushr X6.here hx rfl (hb hby at_59) rfl k) ?_
  refine go _ (T6.setTop (mkF m 61 #[.val (.int p0), .val (.int p1), .val (.int p2), .val (.int p3), .val (.int p4), .val (.int p5), .val (.ref b1), .unset, .unset, .unset, .unset] [(.int (((p4.toUInt32 >>> ((20 : Int32) &&& 31).toUInt32).toInt32).toInt8.toInt32)), (.int (5 : Int32)), (.ref b1)])) (fun t k => XS.i2b X6.here hx rfl (hb hby at_60) rfl k) ?_
  obtain ⟨T7, h7, X7, e7, W7, Av7, st7⟩ := own_stB X6 hx hZ e6 Av6 (i := 5) (by decide) (by decide) (g := (mkF m 61 #[.val (.int p0), .val (.int p1), .val (.int p2), .val (.int p3), .val (.int p4), .val (.int p5), .val (.ref b1), .unset, .unset, .unset, .unset] [(.int (((p4.toUInt32 >>> ((20 : Int32) &&& 31).toUInt32).toInt32).toInt8.toInt32)), (.int (5 : Int32)), (.ref b1)])) rfl rfl (hb hby at_61)
  rw [own_nar8] at Av7
  have N7 := Fr.snoc X7 N6 g_b1
  refine go _ (T7.setTop (mkF m 62 #[.val (.int p0), .val (.int p1), .val (.int p2), .val (.int p3), .val (.int p4), .val (.int p5), .val (.ref b1), .unset, .unset, .unset, .unset] [])) st7 ?_
  refine go _ (T7.setTop (mkF m 64 #[.val (.int p0), .val (.int p1), .val (.int p2), .val (.int p3), .val (.int p4), .val (.int p5), .val (.ref b1), .unset, .unset, .unset, .unset] [(.ref b1)])) (fun t k => XS.aload X7.here hx rfl (hb hby at_62) rfl rfl k) ?_
  refine go _ (T7.setTop (mkF m 66 #[.val (.int p0), .val (.int p1), .val (.int p2), .val (.int p3), .val (.int p4), .val (.int p5), .val (.ref b1), .unset, .unset, .unset, .unset] [(.int (6 : Int32)), (.ref b1)])) (fun t k => XS.bipush X7.here hx rfl (hb hby at_64) k) ?_
  refine go _ (T7.setTop (mkF m 68 #[.val (.int p0), .val (.int p1), .val (.int p2), .val (.int p3), .val (.int p4), .val (.int p5), .val (.ref b1), .unset, .unset, .unset, .unset] [(.int p4), (.int (6 : Int32)), (.ref b1)])) (fun t k => XS.iload X7.here hx rfl (hb hby at_66) rfl k) ?_
  refine go _ (T7.setTop (mkF m 70 #[.val (.int p0), .val (.int p1), .val (.int p2), .val (.int p3), .val (.int p4), .val (.int p5), .val (.ref b1), .unset, .unset, .unset, .unset] [(.int (24 : Int32)), (.int p4), (.int (6 : Int32)), (.ref b1)])) (fun t k => XS.bipush X7.here hx rfl (hb hby at_68) k) ?_
  refine go _ (T7.setTop (mkF m 71 #[.val (.int p0), .val (.int p1), .val (.int p2), .val (.int p3), .val (.int p4), .val (.int p5), .val (.ref b1), .unset, .unset, .unset, .unset] [(.int ((p4.toUInt32 >>> ((24 : Int32) &&& 31).toUInt32).toInt32)), (.int (6 : Int32)), (.ref b1)])) (fun t k => XS.iushr X7.here hx rfl (hb hby at_70) rfl k) ?_
  refine go _ (T7.setTop (mkF m 72 #[.val (.int p0), .val (.int p1), .val (.int p2), .val (.int p3), .val (.int p4), .val (.int p5), .val (.ref b1), .unset, .unset, .unset, .unset] [(.int (((p4.toUInt32 >>> ((24 : Int32) &&& 31).toUInt32).toInt32).toInt8.toInt32)), (.int (6 : Int32)), (.ref b1)])) (fun t k => XS.i2b X7.here hx rfl (hb hby at_71) rfl k) ?_
  obtain ⟨T8, h8, X8, e8, W8, Av8, st8⟩ := own_stB X7 hx hZ e7 Av7 (i := 6) (by decide) (by decide) (g := (mkF m 72 #[.val (.int p0), .val (.int p1), .val (.int p2), .val (.int p3), .val (.int p4), .val (.int p5), .val (.ref b1), .unset, .unset, .unset, .unset] [(.int (((p4.toUInt32 >>> ((24 : Int32) &&& 31).toUInt32).toInt32).toInt8.toInt32)), (.int (6 : Int32)), (.ref b1)])) rfl rfl (hb hby at_72)
  rw [own_nar8] at Av8
  have N8 := Fr.snoc X8 N7 g_b1
  refine go _ (T8.setTop (mkF m 73 #[.val (.int p0), .val (.int p1), .val (.int p2), .val (.int p3), .val (.int p4), .val (.int p5), .val (.ref b1), .unset, .unset, .unset, .unset] [])) st8 ?_
  refine go _ (T8.setTop (mkF m 75 #[.val (.int p0), .val (.int p1), .val (.int p2), .val (.int p3), .val (.int p4), .val (.int p5), .val (.ref b1), .unset, .unset, .unset, .unset] [(.ref b1)])) (fun t k => XS.aload X8.here hx rfl (hb hby at_73) rfl rfl k) ?_
  refine go _ (T8.setTop (mkF m 77 #[.val (.int p0), .val (.int p1), .val (.int p2), .val (.int p3), .val (.int p4), .val (.int p5), .val (.ref b1), .unset, .unset, .unset, .unset] [(.int (7 : Int32)), (.ref b1)])) (fun t k => XS.bipush X8.here hx rfl (hb hby at_75) k) ?_
  refine go _ (T8.setTop (mkF m 79 #[.val (.int p0), .val (.int p1), .val (.int p2), .val (.int p3), .val (.int p4), .val (.int p5), .val (.ref b1), .unset, .unset, .unset, .unset] [(.int p4), (.int (7 : Int32)), (.ref b1)])) (fun t k => XS.iload X8.here hx rfl (hb hby at_77) rfl k) ?_
  refine go _ (T8.setTop (mkF m 81 #[.val (.int p0), .val (.int p1), .val (.int p2), .val (.int p3), .val (.int p4), .val (.int p5), .val (.ref b1), .unset, .unset, .unset, .unset] [(.int (28 : Int32)), (.int p4), (.int (7 : Int32)), (.ref b1)])) (fun t k => XS.bipush X8.here hx rfl (hb hby at_79) k) ?_
  refine go _ (T8.setTop (mkF m 82 #[.val (.int p0), .val (.int p1), .val (.int p2), .val (.int p3), .val (.int p4), .val (.int p5), .val (.ref b1), .unset, .unset, .unset, .unset] [(.int ((p4.toUInt32 >>> ((28 : Int32) &&& 31).toUInt32).toInt32)), (.int (7 : Int32)), (.ref b1)])) (fun t k => XS.iushr X8.here hx rfl (hb hby at_81) rfl k) ?_
  refine go _ (T8.setTop (mkF m 83 #[.val (.int p0), .val (.int p1), .val (.int p2), .val (.int p3), .val (.int p4), .val (.int p5), .val (.ref b1), .unset, .unset, .unset, .unset] [(.int (((p4.toUInt32 >>> ((28 : Int32) &&& 31).toUInt32).toInt32).toInt8.toInt32)), (.int (7 : Int32)), (.ref b1)])) (fun t k => XS.i2b X8.here hx rfl (hb hby at_82) rfl k) ?_
  obtain ⟨T9, h9, X9, e9, W9, Av9, st9⟩ := own_stB X8 hx hZ e8 Av8 (i := 7) (by decide) (by decide) (g := (mkF m 83 #[.val (.int p0), .val (.int p1), .val (.int p2), .val (.int p3), .val (.int p4), .val (.int p5), .val (.ref b1), .unset, .unset, .unset, .unset] [(.int (((p4.toUInt32 >>> ((28 : Int32) &&& 31).toUInt32).toInt32).toInt8.toInt32)), (.int (7 : Int32)), (.ref b1)])) rfl rfl (hb hby at_83)
  rw [own_nar8] at Av9
  have N9 := Fr.snoc X9 N8 g_b1
  refine go _ (T9.setTop (mkF m 84 #[.val (.int p0), .val (.int p1), .val (.int p2), .val (.int p3), .val (.int p4), .val (.int p5), .val (.ref b1), .unset, .unset, .unset, .unset] [])) st9 ?_
  refine go _ (T9.setTop (mkF m 86 #[.val (.int p0), .val (.int p1), .val (.int p2), .val (.int p3), .val (.int p4), .val (.int p5), .val (.ref b1), .unset, .unset, .unset, .unset] [(.int p5)])) (fun t k => XS.iload X9.here hx rfl (hb hby at_84) rfl k) ?_
  refine go _ (T9.setTop (mkF m 88 #[.val (.int p0), .val (.int p1), .val (.int p2), .val (.int p3), .val (.int p4), .val (.int p5), .val (.ref b1), .unset, .unset, .unset, .unset] [(.int (7 : Int32)), (.int p5)])) (fun t k => XS.bipush X9.here hx rfl (hb hby at_86) k) ?_
  refine go _ (T9.setTop (mkF m 89 #[.val (.int p0), .val (.int p1), .val (.int p2), .val (.int p3), .val (.int p4), .val (.int p5), .val (.ref b1), .unset, .unset, .unset, .unset] [(.int (p5 &&& (7 : Int32)))])) (fun t k => XS.iand X9.here hx rfl (hb hby at_88) rfl k) ?_
  refine go _ (T9.setTop (mkF m 90 #[.val (.int p0), .val (.int p1), .val (.int p2), .val (.int p3), .val (.int p4), .val (.int p5), .val (.ref b1), .unset, .unset, .unset, .unset] [(.int (5 : Int32)), (.int (p5 &&& (7 : Int32)))])) (fun t k => XS.iconst X9.here hx rfl (hb hby at_89) k) ?_
  refine go _ (T9.setTop (mkF m 91 #[.val (.int p0), .val (.int p1), .val (.int p2), .val (.int p3), .val (.int p4), .val (.int p5), .val (.ref b1), .unset, .unset, .unset, .unset] [(.int ((p5 &&& (7 : Int32)) % (5 : Int32)))])) (fun t k => iremM X9 hx rfl (hb hby at_90) rfl (show (5 : Int32) ≠ 0 from by decide) k) ?_
  generalize hv_vo : ((p5 &&& (7 : Int32)) % (5 : Int32)) = vo
  obtain ⟨i, hi, hi4⟩ := own_off p5
  rw [hv_vo] at hi
  refine go _ (T9.setTop (mkF m 93 #[.val (.int p0), .val (.int p1), .val (.int p2), .val (.int p3), .val (.int p4), .val (.int p5), .val (.ref b1), .val (.int vo), .unset, .unset, .unset] [])) (fun t k => XS.istore X9.here hx rfl (hb hby at_91) rfl (l' := #[.val (.int p0), .val (.int p1), .val (.int p2), .val (.int p3), .val (.int p4), .val (.int p5), .val (.ref b1), .val (.int vo), .unset, .unset, .unset]) rfl k) ?_
  refine go _ (T9.setTop (mkF m 95 #[.val (.int p0), .val (.int p1), .val (.int p2), .val (.int p3), .val (.int p4), .val (.int p5), .val (.ref b1), .val (.int vo), .unset, .unset, .unset] [(.ref b1)])) (fun t k => XS.aload X9.here hx rfl (hb hby at_93) rfl rfl k) ?_
  refine go _ (T9.setTop (mkF m 97 #[.val (.int p0), .val (.int p1), .val (.int p2), .val (.int p3), .val (.int p4), .val (.int p5), .val (.ref b1), .val (.int vo), .unset, .unset, .unset] [(.int vo), (.ref b1)])) (fun t k => XS.iload X9.here hx rfl (hb hby at_95) rfl k) ?_
  refine go _ (T9.setTop (mkF m 98 #[.val (.int p0), .val (.int p1), .val (.int p2), .val (.int p3), .val (.int p4), .val (.int p5), .val (.ref b1), .val (.int vo), .unset, .unset, .unset] [(.int p0), (.int vo), (.ref b1)])) (fun t k => XS.iloadN X9.here hx rfl (hb hby at_97) rfl k) ?_
  refine go _ (T9.setTop (mkF m 99 #[.val (.int p0), .val (.int p1), .val (.int p2), .val (.int p3), .val (.int p4), .val (.int p5), .val (.ref b1), .val (.int vo), .unset, .unset, .unset] [(.int (p0.toInt8.toInt32)), (.int vo), (.ref b1)])) (fun t k => XS.i2b X9.here hx rfl (hb hby at_98) rfl k) ?_
  obtain ⟨T10, h10, X10, e10, W10, Av10, st10⟩ := own_stB X9 hx hZ e9 Av9 (i := i) hi (by omega) (g := (mkF m 99 #[.val (.int p0), .val (.int p1), .val (.int p2), .val (.int p3), .val (.int p4), .val (.int p5), .val (.ref b1), .val (.int vo), .unset, .unset, .unset] [(.int (p0.toInt8.toInt32)), (.int vo), (.ref b1)])) rfl rfl (hb hby at_99)
  rw [own_nar8] at Av10
  have N10 := Fr.snoc X10 N9 g_b1
  refine go _ (T10.setTop (mkF m 100 #[.val (.int p0), .val (.int p1), .val (.int p2), .val (.int p3), .val (.int p4), .val (.int p5), .val (.ref b1), .val (.int vo), .unset, .unset, .unset] [])) st10 ?_
  refine go _ (T10.setTop (mkF m 102 #[.val (.int p0), .val (.int p1), .val (.int p2), .val (.int p3), .val (.int p4), .val (.int p5), .val (.ref b1), .val (.int vo), .unset, .unset, .unset] [(.ref b1)])) (fun t k => XS.aload X10.here hx rfl (hb hby at_100) rfl rfl k) ?_
  refine go _ (T10.setTop (mkF m 104 #[.val (.int p0), .val (.int p1), .val (.int p2), .val (.int p3), .val (.int p4), .val (.int p5), .val (.ref b1), .val (.int vo), .unset, .unset, .unset] [(.int vo), (.ref b1)])) (fun t k => XS.iload X10.here hx rfl (hb hby at_102) rfl k) ?_
  refine go _ (T10.setTop (mkF m 105 #[.val (.int p0), .val (.int p1), .val (.int p2), .val (.int p3), .val (.int p4), .val (.int p5), .val (.ref b1), .val (.int vo), .unset, .unset, .unset] [(.int (1 : Int32)), (.int vo), (.ref b1)])) (fun t k => XS.iconst X10.here hx rfl (hb hby at_104) k) ?_
  refine go _ (T10.setTop (mkF m 106 #[.val (.int p0), .val (.int p1), .val (.int p2), .val (.int p3), .val (.int p4), .val (.int p5), .val (.ref b1), .val (.int vo), .unset, .unset, .unset] [(.int (vo + (1 : Int32))), (.ref b1)])) (fun t k => XS.iadd X10.here hx rfl (hb hby at_105) rfl k) ?_
  refine go _ (T10.setTop (mkF m 107 #[.val (.int p0), .val (.int p1), .val (.int p2), .val (.int p3), .val (.int p4), .val (.int p5), .val (.ref b1), .val (.int vo), .unset, .unset, .unset] [(.int p1), (.int (vo + (1 : Int32))), (.ref b1)])) (fun t k => XS.iloadN X10.here hx rfl (hb hby at_106) rfl k) ?_
  refine go _ (T10.setTop (mkF m 108 #[.val (.int p0), .val (.int p1), .val (.int p2), .val (.int p3), .val (.int p4), .val (.int p5), .val (.ref b1), .val (.int vo), .unset, .unset, .unset] [(.int (p1.toInt8.toInt32)), (.int (vo + (1 : Int32))), (.ref b1)])) (fun t k => XS.i2b X10.here hx rfl (hb hby at_107) rfl k) ?_
  obtain ⟨T11, h11, X11, e11, W11, Av11, st11⟩ := own_stB X10 hx hZ e10 Av10 (i := (i + 1)) (own_add hi (by decide) (by omega)) (by omega) (g := (mkF m 108 #[.val (.int p0), .val (.int p1), .val (.int p2), .val (.int p3), .val (.int p4), .val (.int p5), .val (.ref b1), .val (.int vo), .unset, .unset, .unset] [(.int (p1.toInt8.toInt32)), (.int (vo + (1 : Int32))), (.ref b1)])) rfl rfl (hb hby at_108)
  rw [own_nar8] at Av11
  have N11 := Fr.snoc X11 N10 g_b1
  refine go _ (T11.setTop (mkF m 109 #[.val (.int p0), .val (.int p1), .val (.int p2), .val (.int p3), .val (.int p4), .val (.int p5), .val (.ref b1), .val (.int vo), .unset, .unset, .unset] [])) st11 ?_
  refine go _ (T11.setTop (mkF m 111 #[.val (.int p0), .val (.int p1), .val (.int p2), .val (.int p3), .val (.int p4), .val (.int p5), .val (.ref b1), .val (.int vo), .unset, .unset, .unset] [(.ref b1)])) (fun t k => XS.aload X11.here hx rfl (hb hby at_109) rfl rfl k) ?_
  refine go _ (T11.setTop (mkF m 113 #[.val (.int p0), .val (.int p1), .val (.int p2), .val (.int p3), .val (.int p4), .val (.int p5), .val (.ref b1), .val (.int vo), .unset, .unset, .unset] [(.int vo), (.ref b1)])) (fun t k => XS.iload X11.here hx rfl (hb hby at_111) rfl k) ?_
  refine go _ (T11.setTop (mkF m 114 #[.val (.int p0), .val (.int p1), .val (.int p2), .val (.int p3), .val (.int p4), .val (.int p5), .val (.ref b1), .val (.int vo), .unset, .unset, .unset] [(.int (2 : Int32)), (.int vo), (.ref b1)])) (fun t k => XS.iconst X11.here hx rfl (hb hby at_113) k) ?_
  refine go _ (T11.setTop (mkF m 115 #[.val (.int p0), .val (.int p1), .val (.int p2), .val (.int p3), .val (.int p4), .val (.int p5), .val (.ref b1), .val (.int vo), .unset, .unset, .unset] [(.int (vo + (2 : Int32))), (.ref b1)])) (fun t k => XS.iadd X11.here hx rfl (hb hby at_114) rfl k) ?_
  refine go _ (T11.setTop (mkF m 116 #[.val (.int p0), .val (.int p1), .val (.int p2), .val (.int p3), .val (.int p4), .val (.int p5), .val (.ref b1), .val (.int vo), .unset, .unset, .unset] [(.int p2), (.int (vo + (2 : Int32))), (.ref b1)])) (fun t k => XS.iloadN X11.here hx rfl (hb hby at_115) rfl k) ?_
  refine go _ (T11.setTop (mkF m 117 #[.val (.int p0), .val (.int p1), .val (.int p2), .val (.int p3), .val (.int p4), .val (.int p5), .val (.ref b1), .val (.int vo), .unset, .unset, .unset] [(.int (p2.toInt8.toInt32)), (.int (vo + (2 : Int32))), (.ref b1)])) (fun t k => XS.i2b X11.here hx rfl (hb hby at_116) rfl k) ?_
  obtain ⟨T12, h12, X12, e12, W12, Av12, st12⟩ := own_stB X11 hx hZ e11 Av11 (i := (i + 2)) (own_add hi (by decide) (by omega)) (by omega) (g := (mkF m 117 #[.val (.int p0), .val (.int p1), .val (.int p2), .val (.int p3), .val (.int p4), .val (.int p5), .val (.ref b1), .val (.int vo), .unset, .unset, .unset] [(.int (p2.toInt8.toInt32)), (.int (vo + (2 : Int32))), (.ref b1)])) rfl rfl (hb hby at_117)
  rw [own_nar8] at Av12
  have N12 := Fr.snoc X12 N11 g_b1
  refine go _ (T12.setTop (mkF m 118 #[.val (.int p0), .val (.int p1), .val (.int p2), .val (.int p3), .val (.int p4), .val (.int p5), .val (.ref b1), .val (.int vo), .unset, .unset, .unset] [])) st12 ?_
  refine go _ (T12.setTop (mkF m 120 #[.val (.int p0), .val (.int p1), .val (.int p2), .val (.int p3), .val (.int p4), .val (.int p5), .val (.ref b1), .val (.int vo), .unset, .unset, .unset] [(.ref b1)])) (fun t k => XS.aload X12.here hx rfl (hb hby at_118) rfl rfl k) ?_
  refine go _ (T12.setTop (mkF m 122 #[.val (.int p0), .val (.int p1), .val (.int p2), .val (.int p3), .val (.int p4), .val (.int p5), .val (.ref b1), .val (.int vo), .unset, .unset, .unset] [(.int vo), (.ref b1)])) (fun t k => XS.iload X12.here hx rfl (hb hby at_120) rfl k) ?_
  refine go _ (T12.setTop (mkF m 123 #[.val (.int p0), .val (.int p1), .val (.int p2), .val (.int p3), .val (.int p4), .val (.int p5), .val (.ref b1), .val (.int vo), .unset, .unset, .unset] [(.int (3 : Int32)), (.int vo), (.ref b1)])) (fun t k => XS.iconst X12.here hx rfl (hb hby at_122) k) ?_
  refine go _ (T12.setTop (mkF m 124 #[.val (.int p0), .val (.int p1), .val (.int p2), .val (.int p3), .val (.int p4), .val (.int p5), .val (.ref b1), .val (.int vo), .unset, .unset, .unset] [(.int (vo + (3 : Int32))), (.ref b1)])) (fun t k => XS.iadd X12.here hx rfl (hb hby at_123) rfl k) ?_
  refine go _ (T12.setTop (mkF m 125 #[.val (.int p0), .val (.int p1), .val (.int p2), .val (.int p3), .val (.int p4), .val (.int p5), .val (.ref b1), .val (.int vo), .unset, .unset, .unset] [(.int p3), (.int (vo + (3 : Int32))), (.ref b1)])) (fun t k => XS.iloadN X12.here hx rfl (hb hby at_124) rfl k) ?_
  refine go _ (T12.setTop (mkF m 126 #[.val (.int p0), .val (.int p1), .val (.int p2), .val (.int p3), .val (.int p4), .val (.int p5), .val (.ref b1), .val (.int vo), .unset, .unset, .unset] [(.int (p3.toInt8.toInt32)), (.int (vo + (3 : Int32))), (.ref b1)])) (fun t k => XS.i2b X12.here hx rfl (hb hby at_125) rfl k) ?_
  obtain ⟨T13, h13, X13, e13, W13, Av13, st13⟩ := own_stB X12 hx hZ e12 Av12 (i := (i + 3)) (own_add hi (by decide) (by omega)) (by omega) (g := (mkF m 126 #[.val (.int p0), .val (.int p1), .val (.int p2), .val (.int p3), .val (.int p4), .val (.int p5), .val (.ref b1), .val (.int vo), .unset, .unset, .unset] [(.int (p3.toInt8.toInt32)), (.int (vo + (3 : Int32))), (.ref b1)])) rfl rfl (hb hby at_126)
  rw [own_nar8] at Av13
  have N13 := Fr.snoc X13 N12 g_b1
  refine go _ (T13.setTop (mkF m 127 #[.val (.int p0), .val (.int p1), .val (.int p2), .val (.int p3), .val (.int p4), .val (.int p5), .val (.ref b1), .val (.int vo), .unset, .unset, .unset] [])) st13 ?_
  refine go _ (T13.setTop (mkF m 128 #[.val (.int p0), .val (.int p1), .val (.int p2), .val (.int p3), .val (.int p4), .val (.int p5), .val (.ref b1), .val (.int vo), .unset, .unset, .unset] [(.int p0)])) (fun t k => XS.iloadN X13.here hx rfl (hb hby at_127) rfl k) ?_
  have Z14z : n0 ≤ h13.size := (Nat.le_trans (Nat.le_trans (Nat.le_trans (Nat.le_trans (Nat.le_trans (Nat.le_trans (Nat.le_trans (Nat.le_trans (Nat.le_trans (Nat.le_trans (Nat.le_trans (Nat.le_trans (Nat.le_trans Z0 E1.1) (Keep.of_wr W2).1) (Keep.of_wr W3).1) (Keep.of_wr W4).1) (Keep.of_wr W5).1) (Keep.of_wr W6).1) (Keep.of_wr W7).1) (Keep.of_wr W8).1) (Keep.of_wr W9).1) (Keep.of_wr W10).1) (Keep.of_wr W11).1) (Keep.of_wr W12).1) (Keep.of_wr W13).1)
  obtain ⟨_, _, ⟨T15, L15, k15, n15⟩, -, X15, ⟨Lc15, hQ15, l15, y15, z15⟩, st15⟩ := Jvm.LawKit.callS X13 hx (y := (⟨"linewarden/service/Sha256WordPinLaw", "unsigned", "(I)J"⟩ : MethodName)) hown (mvT hZ (hw _ (List.mem_of_getElem? (i := 1) rfl))) (mvT hZ (hw _ (List.mem_of_getElem? (i := 2) rfl))) (mvT hZ (hw _ (List.mem_of_getElem? (i := 3) rfl))) (mvT hZ (hw _ (List.mem_of_getElem? (i := 4) rfl))) (by decide) (backOf (W := 0) (rm1 l Z a0 hw [] p0 h13 n0 Z14z) hZ (hw _ (List.mem_of_getElem? (i := 4) rfl)) (hw _ (List.mem_of_getElem? (i := 3) rfl)) (by decide) (by decide)) (g := (mkF m 128 #[.val (.int p0), .val (.int p1), .val (.int p2), .val (.int p3), .val (.int p4), .val (.int p5), .val (.ref b1), .val (.int vo), .unset, .unset, .unset] [(.int p0)])) rfl (by rw [hml]; rfl) (argsL := [(.int p0)]) (rest := []) (lenOf own_pd_0 rfl) rfl (by show 2 * 0 + _ ≤ _; exact Nat.le_of_eq rfl) (hb hby at_128) (fun _ _ => ⟨rfl, e13, (by decide : 1 + 0 ≤ _), (by decide : 8 + 0 ≤ _)⟩)
  dsimp only [Pt.U, Pt.locs, Pt.cells, Pt.slots] at X15 l15 y15 z15 st15 hQ15
  subst l15 y15 z15
  obtain ⟨rfl, Nq15, eq15⟩ := hQ15
  have N15 := Fr.app N13 Nq15
  refine go _ (T15.setTop (mkF m 131 #[.val (.int p0), .val (.int p1), .val (.int p2), .val (.int p3), .val (.int p4), .val (.int p5), .val (.ref b1), .val (.int vo), .unset, .unset, .unset] [(.long (own_uns p0))])) st15 ?_
  refine go _ (T15.setTop (mkF m 134 #[.val (.int p0), .val (.int p1), .val (.int p2), .val (.int p3), .val (.int p4), .val (.int p5), .val (.ref b1), .val (.int vo), .unset, .unset, .unset] [(.long (16777216 : Int64)), (.long (own_uns p0))])) (fun t k => X15.ldc2Long hx hown (mvT hZ (hw _ (List.mem_of_getElem? (i := 5) rfl))) (g := (mkF m 131 #[.val (.int p0), .val (.int p1), .val (.int p2), .val (.int p3), .val (.int p4), .val (.int p5), .val (.ref b1), .val (.int vo), .unset, .unset, .unset] [(.long (own_uns p0))])) rfl (hb hby at_131) _ k) ?_
  refine go _ (T15.setTop (mkF m 135 #[.val (.int p0), .val (.int p1), .val (.int p2), .val (.int p3), .val (.int p4), .val (.int p5), .val (.ref b1), .val (.int vo), .unset, .unset, .unset] [(.long ((own_uns p0) * (16777216 : Int64)))])) (fun t k => XS.lmul X15.here hx rfl (hb hby at_134) rfl k) ?_
  refine go _ (T15.setTop (mkF m 136 #[.val (.int p0), .val (.int p1), .val (.int p2), .val (.int p3), .val (.int p4), .val (.int p5), .val (.ref b1), .val (.int vo), .unset, .unset, .unset] [(.int p1), (.long ((own_uns p0) * (16777216 : Int64)))])) (fun t k => XS.iloadN X15.here hx rfl (hb hby at_135) rfl k) ?_
  obtain ⟨_, _, ⟨T16, L16, k16, n16⟩, -, X16, ⟨Lc16, hQ16, l16, y16, z16⟩, st16⟩ := Jvm.LawKit.callS X15 hx (y := (⟨"linewarden/service/Sha256WordPinLaw", "unsigned", "(I)J"⟩ : MethodName)) hown (mvT hZ (hw _ (List.mem_of_getElem? (i := 1) rfl))) (mvT hZ (hw _ (List.mem_of_getElem? (i := 2) rfl))) (mvT hZ (hw _ (List.mem_of_getElem? (i := 3) rfl))) (mvT hZ (hw _ (List.mem_of_getElem? (i := 4) rfl))) (by decide) (backOf (W := 2) (rm1 l Z a0 hw [] p1 h13 n0 Z14z) hZ (hw _ (List.mem_of_getElem? (i := 4) rfl)) (hw _ (List.mem_of_getElem? (i := 3) rfl)) (by decide) (by decide)) (g := (mkF m 136 #[.val (.int p0), .val (.int p1), .val (.int p2), .val (.int p3), .val (.int p4), .val (.int p5), .val (.ref b1), .val (.int vo), .unset, .unset, .unset] [(.int p1), (.long ((own_uns p0) * (16777216 : Int64)))])) rfl (by rw [hml]; rfl) (argsL := [(.int p1)]) (rest := [(.long ((own_uns p0) * (16777216 : Int64)))]) (lenOf own_pd_0 rfl) rfl (by show 2 * 0 + _ ≤ _; exact Nat.le_of_eq rfl) (hb hby at_136) (fun _ _ => ⟨rfl, eq15, (by decide : 1 + 0 ≤ _), (by decide : 8 + 0 ≤ _)⟩)
  dsimp only [Pt.U, Pt.locs, Pt.cells, Pt.slots] at X16 l16 y16 z16 st16 hQ16
  subst l16 y16 z16
  obtain ⟨rfl, Nq16, eq16⟩ := hQ16
  have N16 := Fr.app N15 Nq16
  refine go _ (T16.setTop (mkF m 139 #[.val (.int p0), .val (.int p1), .val (.int p2), .val (.int p3), .val (.int p4), .val (.int p5), .val (.ref b1), .val (.int vo), .unset, .unset, .unset] [(.long (own_uns p1)), (.long ((own_uns p0) * (16777216 : Int64)))])) st16 ?_
  refine go _ (T16.setTop (mkF m 142 #[.val (.int p0), .val (.int p1), .val (.int p2), .val (.int p3), .val (.int p4), .val (.int p5), .val (.ref b1), .val (.int vo), .unset, .unset, .unset] [(.long (65536 : Int64)), (.long (own_uns p1)), (.long ((own_uns p0) * (16777216 : Int64)))])) (fun t k => X16.ldc2Long hx hown (mvT hZ (hw _ (List.mem_of_getElem? (i := 6) rfl))) (g := (mkF m 139 #[.val (.int p0), .val (.int p1), .val (.int p2), .val (.int p3), .val (.int p4), .val (.int p5), .val (.ref b1), .val (.int vo), .unset, .unset, .unset] [(.long (own_uns p1)), (.long ((own_uns p0) * (16777216 : Int64)))])) rfl (hb hby at_139) _ k) ?_
  refine go _ (T16.setTop (mkF m 143 #[.val (.int p0), .val (.int p1), .val (.int p2), .val (.int p3), .val (.int p4), .val (.int p5), .val (.ref b1), .val (.int vo), .unset, .unset, .unset] [(.long ((own_uns p1) * (65536 : Int64))), (.long ((own_uns p0) * (16777216 : Int64)))])) (fun t k => XS.lmul X16.here hx rfl (hb hby at_142) rfl k) ?_
  refine go _ (T16.setTop (mkF m 144 #[.val (.int p0), .val (.int p1), .val (.int p2), .val (.int p3), .val (.int p4), .val (.int p5), .val (.ref b1), .val (.int vo), .unset, .unset, .unset] [(.long (((own_uns p0) * (16777216 : Int64)) + ((own_uns p1) * (65536 : Int64))))])) (fun t k => XS.ladd X16.here hx rfl (hb hby at_143) rfl k) ?_
  refine go _ (T16.setTop (mkF m 145 #[.val (.int p0), .val (.int p1), .val (.int p2), .val (.int p3), .val (.int p4), .val (.int p5), .val (.ref b1), .val (.int vo), .unset, .unset, .unset] [(.int p2), (.long (((own_uns p0) * (16777216 : Int64)) + ((own_uns p1) * (65536 : Int64))))])) (fun t k => XS.iloadN X16.here hx rfl (hb hby at_144) rfl k) ?_
  obtain ⟨_, _, ⟨T17, L17, k17, n17⟩, -, X17, ⟨Lc17, hQ17, l17, y17, z17⟩, st17⟩ := Jvm.LawKit.callS X16 hx (y := (⟨"linewarden/service/Sha256WordPinLaw", "unsigned", "(I)J"⟩ : MethodName)) hown (mvT hZ (hw _ (List.mem_of_getElem? (i := 1) rfl))) (mvT hZ (hw _ (List.mem_of_getElem? (i := 2) rfl))) (mvT hZ (hw _ (List.mem_of_getElem? (i := 3) rfl))) (mvT hZ (hw _ (List.mem_of_getElem? (i := 4) rfl))) (by decide) (backOf (W := 2) (rm1 l Z a0 hw [] p2 h13 n0 Z14z) hZ (hw _ (List.mem_of_getElem? (i := 4) rfl)) (hw _ (List.mem_of_getElem? (i := 3) rfl)) (by decide) (by decide)) (g := (mkF m 145 #[.val (.int p0), .val (.int p1), .val (.int p2), .val (.int p3), .val (.int p4), .val (.int p5), .val (.ref b1), .val (.int vo), .unset, .unset, .unset] [(.int p2), (.long (((own_uns p0) * (16777216 : Int64)) + ((own_uns p1) * (65536 : Int64))))])) rfl (by rw [hml]; rfl) (argsL := [(.int p2)]) (rest := [(.long (((own_uns p0) * (16777216 : Int64)) + ((own_uns p1) * (65536 : Int64))))]) (lenOf own_pd_0 rfl) rfl (by show 2 * 0 + _ ≤ _; exact Nat.le_of_eq rfl) (hb hby at_145) (fun _ _ => ⟨rfl, eq16, (by decide : 1 + 0 ≤ _), (by decide : 8 + 0 ≤ _)⟩)
  dsimp only [Pt.U, Pt.locs, Pt.cells, Pt.slots] at X17 l17 y17 z17 st17 hQ17
  subst l17 y17 z17
  obtain ⟨rfl, Nq17, eq17⟩ := hQ17
  have N17 := Fr.app N16 Nq17
  refine go _ (T17.setTop (mkF m 148 #[.val (.int p0), .val (.int p1), .val (.int p2), .val (.int p3), .val (.int p4), .val (.int p5), .val (.ref b1), .val (.int vo), .unset, .unset, .unset] [(.long (own_uns p2)), (.long (((own_uns p0) * (16777216 : Int64)) + ((own_uns p1) * (65536 : Int64))))])) st17 ?_
  refine go _ (T17.setTop (mkF m 151 #[.val (.int p0), .val (.int p1), .val (.int p2), .val (.int p3), .val (.int p4), .val (.int p5), .val (.ref b1), .val (.int vo), .unset, .unset, .unset] [(.long (256 : Int64)), (.long (own_uns p2)), (.long (((own_uns p0) * (16777216 : Int64)) + ((own_uns p1) * (65536 : Int64))))])) (fun t k => X17.ldc2Long hx hown (mvT hZ (hw _ (List.mem_of_getElem? (i := 7) rfl))) (g := (mkF m 148 #[.val (.int p0), .val (.int p1), .val (.int p2), .val (.int p3), .val (.int p4), .val (.int p5), .val (.ref b1), .val (.int vo), .unset, .unset, .unset] [(.long (own_uns p2)), (.long (((own_uns p0) * (16777216 : Int64)) + ((own_uns p1) * (65536 : Int64))))])) rfl (hb hby at_148) _ k) ?_
  refine go _ (T17.setTop (mkF m 152 #[.val (.int p0), .val (.int p1), .val (.int p2), .val (.int p3), .val (.int p4), .val (.int p5), .val (.ref b1), .val (.int vo), .unset, .unset, .unset] [(.long ((own_uns p2) * (256 : Int64))), (.long (((own_uns p0) * (16777216 : Int64)) + ((own_uns p1) * (65536 : Int64))))])) (fun t k => XS.lmul X17.here hx rfl (hb hby at_151) rfl k) ?_
  refine go _ (T17.setTop (mkF m 153 #[.val (.int p0), .val (.int p1), .val (.int p2), .val (.int p3), .val (.int p4), .val (.int p5), .val (.ref b1), .val (.int vo), .unset, .unset, .unset] [(.long ((((own_uns p0) * (16777216 : Int64)) + ((own_uns p1) * (65536 : Int64))) + ((own_uns p2) * (256 : Int64))))])) (fun t k => XS.ladd X17.here hx rfl (hb hby at_152) rfl k) ?_
  refine go _ (T17.setTop (mkF m 154 #[.val (.int p0), .val (.int p1), .val (.int p2), .val (.int p3), .val (.int p4), .val (.int p5), .val (.ref b1), .val (.int vo), .unset, .unset, .unset] [(.int p3), (.long ((((own_uns p0) * (16777216 : Int64)) + ((own_uns p1) * (65536 : Int64))) + ((own_uns p2) * (256 : Int64))))])) (fun t k => XS.iloadN X17.here hx rfl (hb hby at_153) rfl k) ?_
  obtain ⟨_, _, ⟨T18, L18, k18, n18⟩, -, X18, ⟨Lc18, hQ18, l18, y18, z18⟩, st18⟩ := Jvm.LawKit.callS X17 hx (y := (⟨"linewarden/service/Sha256WordPinLaw", "unsigned", "(I)J"⟩ : MethodName)) hown (mvT hZ (hw _ (List.mem_of_getElem? (i := 1) rfl))) (mvT hZ (hw _ (List.mem_of_getElem? (i := 2) rfl))) (mvT hZ (hw _ (List.mem_of_getElem? (i := 3) rfl))) (mvT hZ (hw _ (List.mem_of_getElem? (i := 4) rfl))) (by decide) (backOf (W := 2) (rm1 l Z a0 hw [] p3 h13 n0 Z14z) hZ (hw _ (List.mem_of_getElem? (i := 4) rfl)) (hw _ (List.mem_of_getElem? (i := 3) rfl)) (by decide) (by decide)) (g := (mkF m 154 #[.val (.int p0), .val (.int p1), .val (.int p2), .val (.int p3), .val (.int p4), .val (.int p5), .val (.ref b1), .val (.int vo), .unset, .unset, .unset] [(.int p3), (.long ((((own_uns p0) * (16777216 : Int64)) + ((own_uns p1) * (65536 : Int64))) + ((own_uns p2) * (256 : Int64))))])) rfl (by rw [hml]; rfl) (argsL := [(.int p3)]) (rest := [(.long ((((own_uns p0) * (16777216 : Int64)) + ((own_uns p1) * (65536 : Int64))) + ((own_uns p2) * (256 : Int64))))]) (lenOf own_pd_0 rfl) rfl (by show 2 * 0 + _ ≤ _; exact Nat.le_of_eq rfl) (hb hby at_154) (fun _ _ => ⟨rfl, eq17, (by decide : 1 + 0 ≤ _), (by decide : 8 + 0 ≤ _)⟩)
  dsimp only [Pt.U, Pt.locs, Pt.cells, Pt.slots] at X18 l18 y18 z18 st18 hQ18
  subst l18 y18 z18
  obtain ⟨rfl, Nq18, eq18⟩ := hQ18
  have N18 := Fr.app N17 Nq18
  refine go _ (T18.setTop (mkF m 157 #[.val (.int p0), .val (.int p1), .val (.int p2), .val (.int p3), .val (.int p4), .val (.int p5), .val (.ref b1), .val (.int vo), .unset, .unset, .unset] [(.long (own_uns p3)), (.long ((((own_uns p0) * (16777216 : Int64)) + ((own_uns p1) * (65536 : Int64))) + ((own_uns p2) * (256 : Int64))))])) st18 ?_
  refine go _ (T18.setTop (mkF m 158 #[.val (.int p0), .val (.int p1), .val (.int p2), .val (.int p3), .val (.int p4), .val (.int p5), .val (.ref b1), .val (.int vo), .unset, .unset, .unset] [(.long (((((own_uns p0) * (16777216 : Int64)) + ((own_uns p1) * (65536 : Int64))) + ((own_uns p2) * (256 : Int64))) + (own_uns p3)))])) (fun t k => XS.ladd X18.here hx rfl (hb hby at_157) rfl k) ?_
  refine go _ (T18.setTop (mkF m 160 #[.val (.int p0), .val (.int p1), .val (.int p2), .val (.int p3), .val (.int p4), .val (.int p5), .val (.ref b1), .val (.int vo), .val (.long (((((own_uns p0) * (16777216 : Int64)) + ((own_uns p1) * (65536 : Int64))) + ((own_uns p2) * (256 : Int64))) + (own_uns p3))), .second, .unset] [])) (fun t k => XS.lstore X18.here hx rfl (hb hby at_158) rfl (l' := #[.val (.int p0), .val (.int p1), .val (.int p2), .val (.int p3), .val (.int p4), .val (.int p5), .val (.ref b1), .val (.int vo), .val (.long (((((own_uns p0) * (16777216 : Int64)) + ((own_uns p1) * (65536 : Int64))) + ((own_uns p2) * (256 : Int64))) + (own_uns p3))), .second, .unset]) rfl k) ?_
  refine go _ (T18.setTop (mkF m 162 #[.val (.int p0), .val (.int p1), .val (.int p2), .val (.int p3), .val (.int p4), .val (.int p5), .val (.ref b1), .val (.int vo), .val (.long (((((own_uns p0) * (16777216 : Int64)) + ((own_uns p1) * (65536 : Int64))) + ((own_uns p2) * (256 : Int64))) + (own_uns p3))), .second, .unset] [(.ref b1)])) (fun t k => XS.aload X18.here hx rfl (hb hby at_160) rfl rfl k) ?_
  refine go _ (T18.setTop (mkF m 164 #[.val (.int p0), .val (.int p1), .val (.int p2), .val (.int p3), .val (.int p4), .val (.int p5), .val (.ref b1), .val (.int vo), .val (.long (((((own_uns p0) * (16777216 : Int64)) + ((own_uns p1) * (65536 : Int64))) + ((own_uns p2) * (256 : Int64))) + (own_uns p3))), .second, .unset] [(.int vo), (.ref b1)])) (fun t k => XS.iload X18.here hx rfl (hb hby at_162) rfl k) ?_
  obtain ⟨_, _, ⟨T19, L19, k19, n19⟩, -, X19, ⟨Lc19, hQ19, l19, y19, z19⟩, st19⟩ := Jvm.LawKit.callS X18 hx (y := (⟨"linewarden/service/Sha256", "word", "([BI)I"⟩ : MethodName)) hown (mvT hZ (hw _ (List.mem_of_getElem? (i := 8) rfl))) (mvT hZ (hw _ (List.mem_of_getElem? (i := 9) rfl))) (mvT hZ (hw _ (List.mem_of_getElem? (i := 10) rfl))) (mvT hZ (hw _ (List.mem_of_getElem? (i := 11) rfl))) (by decide) (backOf (W := 0) (rm2 l Z a0 hw [] b1 vo i (own_up (own_up (own_up (own_up (own_up (own_up (own_up (own_up (own_up (own_up (own_up (own_up (fun _ => (.int 0)) 0 (.int (p4.toInt8.toInt32))) 1 (.int (((p4.toUInt32 >>> ((4 : Int32) &&& 31).toUInt32).toInt32).toInt8.toInt32))) 2 (.int (((p4.toUInt32 >>> ((8 : Int32) &&& 31).toUInt32).toInt32).toInt8.toInt32))) 3 (.int (((p4.toUInt32 >>> ((12 : Int32) &&& 31).toUInt32).toInt32).toInt8.toInt32))) 4 (.int (((p4.toUInt32 >>> ((16 : Int32) &&& 31).toUInt32).toInt32).toInt8.toInt32))) 5 (.int (((p4.toUInt32 >>> ((20 : Int32) &&& 31).toUInt32).toInt32).toInt8.toInt32))) 6 (.int (((p4.toUInt32 >>> ((24 : Int32) &&& 31).toUInt32).toInt32).toInt8.toInt32))) 7 (.int (((p4.toUInt32 >>> ((28 : Int32) &&& 31).toUInt32).toInt32).toInt8.toInt32))) i (.int (p0.toInt8.toInt32))) (i + 1) (.int (p1.toInt8.toInt32))) (i + 2) (.int (p2.toInt8.toInt32))) (i + 3) (.int (p3.toInt8.toInt32))) h13 n0 Z14z Av13 hi hi4) hZ (hw _ (List.mem_of_getElem? (i := 11) rfl)) (hw _ (List.mem_of_getElem? (i := 10) rfl)) (by decide) (by decide)) (g := (mkF m 164 #[.val (.int p0), .val (.int p1), .val (.int p2), .val (.int p3), .val (.int p4), .val (.int p5), .val (.ref b1), .val (.int vo), .val (.long (((((own_uns p0) * (16777216 : Int64)) + ((own_uns p1) * (65536 : Int64))) + ((own_uns p2) * (256 : Int64))) + (own_uns p3))), .second, .unset] [(.int vo), (.ref b1)])) rfl (by rw [hml]; rfl) (argsL := [(.ref b1), (.int vo)]) (rest := []) (lenOf own_pd_1 rfl) rfl (by show 2 * 0 + _ ≤ _; exact Nat.le_of_eq rfl) (hb hby at_164) (fun _ _ => ⟨rfl, eq18, (by decide : 1 + 0 ≤ _), (by decide : 8 + 0 ≤ _)⟩)
  dsimp only [Pt.U, Pt.locs, Pt.cells, Pt.slots] at X19 l19 y19 z19 st19 hQ19
  subst l19 y19 z19
  obtain ⟨rfl, Nq19, eq19⟩ := hQ19
  have N19 := Fr.app N18 Nq19
  refine go _ (T19.setTop (mkF m 167 #[.val (.int p0), .val (.int p1), .val (.int p2), .val (.int p3), .val (.int p4), .val (.int p5), .val (.ref b1), .val (.int vo), .val (.long (((((own_uns p0) * (16777216 : Int64)) + ((own_uns p1) * (65536 : Int64))) + ((own_uns p2) * (256 : Int64))) + (own_uns p3))), .second, .unset] [(.int (own_wd (own_iv ((own_up (own_up (own_up (own_up (own_up (own_up (own_up (own_up (own_up (own_up (own_up (own_up (fun _ => (.int 0)) 0 (.int (p4.toInt8.toInt32))) 1 (.int (((p4.toUInt32 >>> ((4 : Int32) &&& 31).toUInt32).toInt32).toInt8.toInt32))) 2 (.int (((p4.toUInt32 >>> ((8 : Int32) &&& 31).toUInt32).toInt32).toInt8.toInt32))) 3 (.int (((p4.toUInt32 >>> ((12 : Int32) &&& 31).toUInt32).toInt32).toInt8.toInt32))) 4 (.int (((p4.toUInt32 >>> ((16 : Int32) &&& 31).toUInt32).toInt32).toInt8.toInt32))) 5 (.int (((p4.toUInt32 >>> ((20 : Int32) &&& 31).toUInt32).toInt32).toInt8.toInt32))) 6 (.int (((p4.toUInt32 >>> ((24 : Int32) &&& 31).toUInt32).toInt32).toInt8.toInt32))) 7 (.int (((p4.toUInt32 >>> ((28 : Int32) &&& 31).toUInt32).toInt32).toInt8.toInt32))) i (.int (p0.toInt8.toInt32))) (i + 1) (.int (p1.toInt8.toInt32))) (i + 2) (.int (p2.toInt8.toInt32))) (i + 3) (.int (p3.toInt8.toInt32))) i)) (own_iv ((own_up (own_up (own_up (own_up (own_up (own_up (own_up (own_up (own_up (own_up (own_up (own_up (fun _ => (.int 0)) 0 (.int (p4.toInt8.toInt32))) 1 (.int (((p4.toUInt32 >>> ((4 : Int32) &&& 31).toUInt32).toInt32).toInt8.toInt32))) 2 (.int (((p4.toUInt32 >>> ((8 : Int32) &&& 31).toUInt32).toInt32).toInt8.toInt32))) 3 (.int (((p4.toUInt32 >>> ((12 : Int32) &&& 31).toUInt32).toInt32).toInt8.toInt32))) 4 (.int (((p4.toUInt32 >>> ((16 : Int32) &&& 31).toUInt32).toInt32).toInt8.toInt32))) 5 (.int (((p4.toUInt32 >>> ((20 : Int32) &&& 31).toUInt32).toInt32).toInt8.toInt32))) 6 (.int (((p4.toUInt32 >>> ((24 : Int32) &&& 31).toUInt32).toInt32).toInt8.toInt32))) 7 (.int (((p4.toUInt32 >>> ((28 : Int32) &&& 31).toUInt32).toInt32).toInt8.toInt32))) i (.int (p0.toInt8.toInt32))) (i + 1) (.int (p1.toInt8.toInt32))) (i + 2) (.int (p2.toInt8.toInt32))) (i + 3) (.int (p3.toInt8.toInt32))) (i + 1))) (own_iv ((own_up (own_up (own_up (own_up (own_up (own_up (own_up (own_up (own_up (own_up (own_up (own_up (fun _ => (.int 0)) 0 (.int (p4.toInt8.toInt32))) 1 (.int (((p4.toUInt32 >>> ((4 : Int32) &&& 31).toUInt32).toInt32).toInt8.toInt32))) 2 (.int (((p4.toUInt32 >>> ((8 : Int32) &&& 31).toUInt32).toInt32).toInt8.toInt32))) 3 (.int (((p4.toUInt32 >>> ((12 : Int32) &&& 31).toUInt32).toInt32).toInt8.toInt32))) 4 (.int (((p4.toUInt32 >>> ((16 : Int32) &&& 31).toUInt32).toInt32).toInt8.toInt32))) 5 (.int (((p4.toUInt32 >>> ((20 : Int32) &&& 31).toUInt32).toInt32).toInt8.toInt32))) 6 (.int (((p4.toUInt32 >>> ((24 : Int32) &&& 31).toUInt32).toInt32).toInt8.toInt32))) 7 (.int (((p4.toUInt32 >>> ((28 : Int32) &&& 31).toUInt32).toInt32).toInt8.toInt32))) i (.int (p0.toInt8.toInt32))) (i + 1) (.int (p1.toInt8.toInt32))) (i + 2) (.int (p2.toInt8.toInt32))) (i + 3) (.int (p3.toInt8.toInt32))) (i + 2))) (own_iv ((own_up (own_up (own_up (own_up (own_up (own_up (own_up (own_up (own_up (own_up (own_up (own_up (fun _ => (.int 0)) 0 (.int (p4.toInt8.toInt32))) 1 (.int (((p4.toUInt32 >>> ((4 : Int32) &&& 31).toUInt32).toInt32).toInt8.toInt32))) 2 (.int (((p4.toUInt32 >>> ((8 : Int32) &&& 31).toUInt32).toInt32).toInt8.toInt32))) 3 (.int (((p4.toUInt32 >>> ((12 : Int32) &&& 31).toUInt32).toInt32).toInt8.toInt32))) 4 (.int (((p4.toUInt32 >>> ((16 : Int32) &&& 31).toUInt32).toInt32).toInt8.toInt32))) 5 (.int (((p4.toUInt32 >>> ((20 : Int32) &&& 31).toUInt32).toInt32).toInt8.toInt32))) 6 (.int (((p4.toUInt32 >>> ((24 : Int32) &&& 31).toUInt32).toInt32).toInt8.toInt32))) 7 (.int (((p4.toUInt32 >>> ((28 : Int32) &&& 31).toUInt32).toInt32).toInt8.toInt32))) i (.int (p0.toInt8.toInt32))) (i + 1) (.int (p1.toInt8.toInt32))) (i + 2) (.int (p2.toInt8.toInt32))) (i + 3) (.int (p3.toInt8.toInt32))) (i + 3)))))])) st19 ?_
  generalize hv_vw : (own_wd (own_iv ((own_up (own_up (own_up (own_up (own_up (own_up (own_up (own_up (own_up (own_up (own_up (own_up (fun _ => (.int 0)) 0 (.int (p4.toInt8.toInt32))) 1 (.int (((p4.toUInt32 >>> ((4 : Int32) &&& 31).toUInt32).toInt32).toInt8.toInt32))) 2 (.int (((p4.toUInt32 >>> ((8 : Int32) &&& 31).toUInt32).toInt32).toInt8.toInt32))) 3 (.int (((p4.toUInt32 >>> ((12 : Int32) &&& 31).toUInt32).toInt32).toInt8.toInt32))) 4 (.int (((p4.toUInt32 >>> ((16 : Int32) &&& 31).toUInt32).toInt32).toInt8.toInt32))) 5 (.int (((p4.toUInt32 >>> ((20 : Int32) &&& 31).toUInt32).toInt32).toInt8.toInt32))) 6 (.int (((p4.toUInt32 >>> ((24 : Int32) &&& 31).toUInt32).toInt32).toInt8.toInt32))) 7 (.int (((p4.toUInt32 >>> ((28 : Int32) &&& 31).toUInt32).toInt32).toInt8.toInt32))) i (.int (p0.toInt8.toInt32))) (i + 1) (.int (p1.toInt8.toInt32))) (i + 2) (.int (p2.toInt8.toInt32))) (i + 3) (.int (p3.toInt8.toInt32))) i)) (own_iv ((own_up (own_up (own_up (own_up (own_up (own_up (own_up (own_up (own_up (own_up (own_up (own_up (fun _ => (.int 0)) 0 (.int (p4.toInt8.toInt32))) 1 (.int (((p4.toUInt32 >>> ((4 : Int32) &&& 31).toUInt32).toInt32).toInt8.toInt32))) 2 (.int (((p4.toUInt32 >>> ((8 : Int32) &&& 31).toUInt32).toInt32).toInt8.toInt32))) 3 (.int (((p4.toUInt32 >>> ((12 : Int32) &&& 31).toUInt32).toInt32).toInt8.toInt32))) 4 (.int (((p4.toUInt32 >>> ((16 : Int32) &&& 31).toUInt32).toInt32).toInt8.toInt32))) 5 (.int (((p4.toUInt32 >>> ((20 : Int32) &&& 31).toUInt32).toInt32).toInt8.toInt32))) 6 (.int (((p4.toUInt32 >>> ((24 : Int32) &&& 31).toUInt32).toInt32).toInt8.toInt32))) 7 (.int (((p4.toUInt32 >>> ((28 : Int32) &&& 31).toUInt32).toInt32).toInt8.toInt32))) i (.int (p0.toInt8.toInt32))) (i + 1) (.int (p1.toInt8.toInt32))) (i + 2) (.int (p2.toInt8.toInt32))) (i + 3) (.int (p3.toInt8.toInt32))) (i + 1))) (own_iv ((own_up (own_up (own_up (own_up (own_up (own_up (own_up (own_up (own_up (own_up (own_up (own_up (fun _ => (.int 0)) 0 (.int (p4.toInt8.toInt32))) 1 (.int (((p4.toUInt32 >>> ((4 : Int32) &&& 31).toUInt32).toInt32).toInt8.toInt32))) 2 (.int (((p4.toUInt32 >>> ((8 : Int32) &&& 31).toUInt32).toInt32).toInt8.toInt32))) 3 (.int (((p4.toUInt32 >>> ((12 : Int32) &&& 31).toUInt32).toInt32).toInt8.toInt32))) 4 (.int (((p4.toUInt32 >>> ((16 : Int32) &&& 31).toUInt32).toInt32).toInt8.toInt32))) 5 (.int (((p4.toUInt32 >>> ((20 : Int32) &&& 31).toUInt32).toInt32).toInt8.toInt32))) 6 (.int (((p4.toUInt32 >>> ((24 : Int32) &&& 31).toUInt32).toInt32).toInt8.toInt32))) 7 (.int (((p4.toUInt32 >>> ((28 : Int32) &&& 31).toUInt32).toInt32).toInt8.toInt32))) i (.int (p0.toInt8.toInt32))) (i + 1) (.int (p1.toInt8.toInt32))) (i + 2) (.int (p2.toInt8.toInt32))) (i + 3) (.int (p3.toInt8.toInt32))) (i + 2))) (own_iv ((own_up (own_up (own_up (own_up (own_up (own_up (own_up (own_up (own_up (own_up (own_up (own_up (fun _ => (.int 0)) 0 (.int (p4.toInt8.toInt32))) 1 (.int (((p4.toUInt32 >>> ((4 : Int32) &&& 31).toUInt32).toInt32).toInt8.toInt32))) 2 (.int (((p4.toUInt32 >>> ((8 : Int32) &&& 31).toUInt32).toInt32).toInt8.toInt32))) 3 (.int (((p4.toUInt32 >>> ((12 : Int32) &&& 31).toUInt32).toInt32).toInt8.toInt32))) 4 (.int (((p4.toUInt32 >>> ((16 : Int32) &&& 31).toUInt32).toInt32).toInt8.toInt32))) 5 (.int (((p4.toUInt32 >>> ((20 : Int32) &&& 31).toUInt32).toInt32).toInt8.toInt32))) 6 (.int (((p4.toUInt32 >>> ((24 : Int32) &&& 31).toUInt32).toInt32).toInt8.toInt32))) 7 (.int (((p4.toUInt32 >>> ((28 : Int32) &&& 31).toUInt32).toInt32).toInt8.toInt32))) i (.int (p0.toInt8.toInt32))) (i + 1) (.int (p1.toInt8.toInt32))) (i + 2) (.int (p2.toInt8.toInt32))) (i + 3) (.int (p3.toInt8.toInt32))) (i + 3)))) = vw
  simp only [own_rd] at hv_vw
  refine go _ (T19.setTop (mkF m 169 #[.val (.int p0), .val (.int p1), .val (.int p2), .val (.int p3), .val (.int p4), .val (.int p5), .val (.ref b1), .val (.int vo), .val (.long (((((own_uns p0) * (16777216 : Int64)) + ((own_uns p1) * (65536 : Int64))) + ((own_uns p2) * (256 : Int64))) + (own_uns p3))), .second, .val (.int vw)] [])) (fun t k => XS.istore X19.here hx rfl (hb hby at_167) rfl (l' := #[.val (.int p0), .val (.int p1), .val (.int p2), .val (.int p3), .val (.int p4), .val (.int p5), .val (.ref b1), .val (.int vo), .val (.long (((((own_uns p0) * (16777216 : Int64)) + ((own_uns p1) * (65536 : Int64))) + ((own_uns p2) * (256 : Int64))) + (own_uns p3))), .second, .val (.int vw)]) rfl k) ?_
  refine go _ (T19.setTop (mkF m 171 #[.val (.int p0), .val (.int p1), .val (.int p2), .val (.int p3), .val (.int p4), .val (.int p5), .val (.ref b1), .val (.int vo), .val (.long (((((own_uns p0) * (16777216 : Int64)) + ((own_uns p1) * (65536 : Int64))) + ((own_uns p2) * (256 : Int64))) + (own_uns p3))), .second, .val (.int vw)] [(.int vw)])) (fun t k => XS.iload X19.here hx rfl (hb hby at_169) rfl k) ?_
  refine go _ (T19.setTop (mkF m 173 #[.val (.int p0), .val (.int p1), .val (.int p2), .val (.int p3), .val (.int p4), .val (.int p5), .val (.ref b1), .val (.int vo), .val (.long (((((own_uns p0) * (16777216 : Int64)) + ((own_uns p1) * (65536 : Int64))) + ((own_uns p2) * (256 : Int64))) + (own_uns p3))), .second, .val (.int vw)] [(.long (((((own_uns p0) * (16777216 : Int64)) + ((own_uns p1) * (65536 : Int64))) + ((own_uns p2) * (256 : Int64))) + (own_uns p3))), (.int vw)])) (fun t k => XS.lload X19.here hx rfl (hb hby at_171) rfl k) ?_
  refine go _ (T19.setTop (mkF m 174 #[.val (.int p0), .val (.int p1), .val (.int p2), .val (.int p3), .val (.int p4), .val (.int p5), .val (.ref b1), .val (.int vo), .val (.long (((((own_uns p0) * (16777216 : Int64)) + ((own_uns p1) * (65536 : Int64))) + ((own_uns p2) * (256 : Int64))) + (own_uns p3))), .second, .val (.int vw)] [(.int ((((((own_uns p0) * (16777216 : Int64)) + ((own_uns p1) * (65536 : Int64))) + ((own_uns p2) * (256 : Int64))) + (own_uns p3)).toInt32)), (.int vw)])) (fun t k => XS.l2i X19.here hx rfl (hb hby at_173) rfl k) ?_
  have hc174 : vw = ((((((own_uns p0) * (16777216 : Int64)) + ((own_uns p1) * (65536 : Int64))) + ((own_uns p2) * (256 : Int64))) + (own_uns p3)).toInt32) := by rw [← hv_vw]; exact own_e1 p0 p1 p2 p3
  refine go _ (T19.setTop (mkF m 177 #[.val (.int p0), .val (.int p1), .val (.int p2), .val (.int p3), .val (.int p4), .val (.int p5), .val (.ref b1), .val (.int vo), .val (.long (((((own_uns p0) * (16777216 : Int64)) + ((own_uns p1) * (65536 : Int64))) + ((own_uns p2) * (256 : Int64))) + (own_uns p3))), .second, .val (.int vw)] [])) (fun t k => XS.icmpNo X19.here hx rfl (hb hby at_174) rfl (teq hc174).2 k) ?_
  refine go _ (T19.setTop (mkF m 179 #[.val (.int p0), .val (.int p1), .val (.int p2), .val (.int p3), .val (.int p4), .val (.int p5), .val (.ref b1), .val (.int vo), .val (.long (((((own_uns p0) * (16777216 : Int64)) + ((own_uns p1) * (65536 : Int64))) + ((own_uns p2) * (256 : Int64))) + (own_uns p3))), .second, .val (.int vw)] [(.int vw)])) (fun t k => XS.iload X19.here hx rfl (hb hby at_177) rfl k) ?_
  refine go _ (T19.setTop (mkF m 180 #[.val (.int p0), .val (.int p1), .val (.int p2), .val (.int p3), .val (.int p4), .val (.int p5), .val (.ref b1), .val (.int vo), .val (.long (((((own_uns p0) * (16777216 : Int64)) + ((own_uns p1) * (65536 : Int64))) + ((own_uns p2) * (256 : Int64))) + (own_uns p3))), .second, .val (.int vw)] [(.long (vw.toInt64))])) (fun t k => XS.i2l X19.here hx rfl (hb hby at_179) rfl k) ?_
  refine go _ (T19.setTop (mkF m 183 #[.val (.int p0), .val (.int p1), .val (.int p2), .val (.int p3), .val (.int p4), .val (.int p5), .val (.ref b1), .val (.int vo), .val (.long (((((own_uns p0) * (16777216 : Int64)) + ((own_uns p1) * (65536 : Int64))) + ((own_uns p2) * (256 : Int64))) + (own_uns p3))), .second, .val (.int vw)] [(.long (4294967295 : Int64)), (.long (vw.toInt64))])) (fun t k => X19.ldc2Long hx hown (mvT hZ (hw _ (List.mem_of_getElem? (i := 12) rfl))) (g := (mkF m 180 #[.val (.int p0), .val (.int p1), .val (.int p2), .val (.int p3), .val (.int p4), .val (.int p5), .val (.ref b1), .val (.int vo), .val (.long (((((own_uns p0) * (16777216 : Int64)) + ((own_uns p1) * (65536 : Int64))) + ((own_uns p2) * (256 : Int64))) + (own_uns p3))), .second, .val (.int vw)] [(.long (vw.toInt64))])) rfl (hb hby at_180) _ k) ?_
  refine go _ (T19.setTop (mkF m 184 #[.val (.int p0), .val (.int p1), .val (.int p2), .val (.int p3), .val (.int p4), .val (.int p5), .val (.ref b1), .val (.int vo), .val (.long (((((own_uns p0) * (16777216 : Int64)) + ((own_uns p1) * (65536 : Int64))) + ((own_uns p2) * (256 : Int64))) + (own_uns p3))), .second, .val (.int vw)] [(.long ((vw.toInt64) &&& (4294967295 : Int64)))])) (fun t k => XS.land X19.here hx rfl (hb hby at_183) rfl k) ?_
  refine go _ (T19.setTop (mkF m 186 #[.val (.int p0), .val (.int p1), .val (.int p2), .val (.int p3), .val (.int p4), .val (.int p5), .val (.ref b1), .val (.int vo), .val (.long (((((own_uns p0) * (16777216 : Int64)) + ((own_uns p1) * (65536 : Int64))) + ((own_uns p2) * (256 : Int64))) + (own_uns p3))), .second, .val (.int vw)] [(.long (((((own_uns p0) * (16777216 : Int64)) + ((own_uns p1) * (65536 : Int64))) + ((own_uns p2) * (256 : Int64))) + (own_uns p3))), (.long ((vw.toInt64) &&& (4294967295 : Int64)))])) (fun t k => XS.lload X19.here hx rfl (hb hby at_184) rfl k) ?_
  refine go _ (T19.setTop (mkF m 187 #[.val (.int p0), .val (.int p1), .val (.int p2), .val (.int p3), .val (.int p4), .val (.int p5), .val (.ref b1), .val (.int vo), .val (.long (((((own_uns p0) * (16777216 : Int64)) + ((own_uns p1) * (65536 : Int64))) + ((own_uns p2) * (256 : Int64))) + (own_uns p3))), .second, .val (.int vw)] [(.int (lcmpW ((vw.toInt64) &&& (4294967295 : Int64)) (((((own_uns p0) * (16777216 : Int64)) + ((own_uns p1) * (65536 : Int64))) + ((own_uns p2) * (256 : Int64))) + (own_uns p3))))])) (fun t k => XS.lcmp X19.here hx rfl (hb hby at_186) rfl k) ?_
  have hc187 : ((vw.toInt64) &&& (4294967295 : Int64)) = (((((own_uns p0) * (16777216 : Int64)) + ((own_uns p1) * (65536 : Int64))) + ((own_uns p2) * (256 : Int64))) + (own_uns p3)) := by rw [← hv_vw]; exact own_e2 p0 p1 p2 p3
  refine go _ (T19.setTop (mkF m 190 #[.val (.int p0), .val (.int p1), .val (.int p2), .val (.int p3), .val (.int p4), .val (.int p5), .val (.ref b1), .val (.int vo), .val (.long (((((own_uns p0) * (16777216 : Int64)) + ((own_uns p1) * (65536 : Int64))) + ((own_uns p2) * (256 : Int64))) + (own_uns p3))), .second, .val (.int vw)] [])) (fun t k => XS.ifNo X19.here hx rfl (hb hby at_187) rfl ((if0 _ _).trans (teq ((lw_eq _ _).mpr hc187)).2) k) ?_
  refine go _ (T19.setTop (mkF m 191 #[.val (.int p0), .val (.int p1), .val (.int p2), .val (.int p3), .val (.int p4), .val (.int p5), .val (.ref b1), .val (.int vo), .val (.long (((((own_uns p0) * (16777216 : Int64)) + ((own_uns p1) * (65536 : Int64))) + ((own_uns p2) * (256 : Int64))) + (own_uns p3))), .second, .val (.int vw)] [(.int (1 : Int32))])) (fun t k => XS.iconst X19.here hx rfl (hb hby at_190) k) ?_
  refine go _ (T19.setTop (mkF m 195 #[.val (.int p0), .val (.int p1), .val (.int p2), .val (.int p3), .val (.int p4), .val (.int p5), .val (.ref b1), .val (.int vo), .val (.long (((((own_uns p0) * (16777216 : Int64)) + ((own_uns p1) * (65536 : Int64))) + ((own_uns p2) * (256 : Int64))) + (own_uns p3))), .second, .val (.int vw)] [(.int (1 : Int32))])) (fun t k => XS.goto X19.here hx rfl (pc0 := 191) (pc' := 195) rfl (hb hby at_191) (by decide) (by decide) k) ?_
  refine fin (some (.int (1 : Int32))) (mkF m 195 #[.val (.int p0), .val (.int p1), .val (.int p2), .val (.int p3), .val (.int p4), .val (.int p5), .val (.ref b1), .val (.int vo), .val (.long (((((own_uns p0) * (16777216 : Int64)) + ((own_uns p1) * (65536 : Int64))) + ((own_uns p2) * (256 : Int64))) + (own_uns p3))), .second, .val (.int vw)] [(.int (1 : Int32))]) X19 (fun h => by cases h) (fun fs hr => retOut X19 hx (t := .boolean) hret rfl (Or.inl ⟨rfl, by simp, _, rfl⟩) (hb hby at_195) hr) ?_ (by decide) (by decide)
  exact ⟨rfl, N19⟩
set_option maxRecDepth 65536 in
set_option maxHeartbeats 40000000 in
theorem comes_1 {Post : Tables → Env → Array Value → State → Outcome → State → Prop} (hpost : ∀ tb e args s v u, (limb_1_1.after args s (.returned v) u = true ∧ limb_1_2.after args s (.returned v) u = true ∧ True) → FrameEnd s (.returned v) u (Jvm.fieldLocs frame_1_writes args s ++ Jvm.arrayLocs frame_1_arrays args s ++ Jvm.staticLocs frame_1_statics s) 16 128 → Post tb e args s (.returned v) u) :
    ArmFor flags0 classFile x code maxLocals ret World_1 tables_1 room_1 Calls_1 rest_1 Pre_1 Post := by
  intro l hfl _ _ p e ha hc hk s m args below hf hA hF happ hP
  obtain ⟨hcalls, hrest, hpre⟩ := hP
  obtain ⟨-, -, -, hnamed, -, -, -, hat⟩ := (Spec.applies_iff hf).mp happ
  obtain ⟨hg, hn⟩ := and_e (Cond.before_iff.mp (show (Jvm.Cond.and given_1 narrow_1).before args s = true from hpre))
  obtain ⟨gg1, gg2⟩ := and_e hg
  obtain ⟨gg3, gg4⟩ := and_e gg2
  obtain ⟨gg5, gg6⟩ := and_e gg4
  obtain ⟨gg7, gg8⟩ := and_e gg6
  obtain ⟨gg9, gg10⟩ := and_e gg8
  obtain ⟨gg11, gg12⟩ := and_e gg10
  obtain ⟨w0, w1, w2, w3, w4, w5, rfl⟩ : ∃ w0 w1 w2 w3 w4 w5 : Value, args = #[w0, w1, w2, w3, w4, w5] := by
    have hs : args.size = 6 := by simpa [Cond.value, given_1] using gg1
    obtain ⟨L⟩ := args
    match L, hs with
    | [w0, w1, w2, w3, w4, w5], _ => exact ⟨w0, w1, w2, w3, w4, w5, rfl⟩
  have hw := fun d (hd : d ∈ tables_1) => atoms_spec (ws := Jvm.Cond.code x code maxLocals ret :: tables_1) hat d (List.mem_cons_of_mem _ hd)
  have hfit : Fit s := fun {y c} hc i hi => by
    obtain ⟨ha, rfl⟩ := Array.getElem?_eq_some_iff.mp hc
    have q := List.all_eq_true.mp ((Array.all_eq_true_iff_forall_mem.mp hF) _ (Array.getElem_mem ha)) i (List.mem_range.mpr hi)
    simpa [Array.getElem?_eq_getElem hi] using q
  obtain ⟨i0, ei0⟩ := is_v gg3
  obtain rfl : w0 = (.int i0) := Option.some.inj ei0
  obtain ⟨i1, ei1⟩ := is_v gg5
  obtain rfl : w1 = (.int i1) := Option.some.inj ei1
  obtain ⟨i2, ei2⟩ := is_v gg7
  obtain rfl : w2 = (.int i2) := Option.some.inj ei2
  obtain ⟨i3, ei3⟩ := is_v gg9
  obtain rfl : w3 = (.int i3) := Option.some.inj ei3
  obtain ⟨i4, ei4⟩ := is_v gg11
  obtain rfl : w4 = (.int i4) := Option.some.inj ei4
  obtain ⟨i5, ei5⟩ := is_v gg12
  obtain rfl : w5 = (.int i5) := Option.some.inj ei5
  obtain ⟨n, o, h1, h2, h3, _, L, rfl, ⟨rfl, N⟩, hq⟩ := rm0 l s _ hw tables_1 i0 i1 i2 i3 i4 i5 s.heap s.heap.size (Nat.le_refl _)  p e ha hc hk s m _ below hf ((Spec.applies_iff_loose hf).mp happ).1 ⟨rfl, State.Warmed39.refl s, rfl⟩ trivial
  refine ⟨n, _, h1, h2, h3, hpost _ _ _ _ _ _ ⟨Cond.after_iff.mpr rfl, Cond.after_iff.mpr (eq_i res_at (Term.int_eval (1)) rfl), trivial⟩ ⟨hq.1, hq.2.1, (hq.2.2.sift fun y hy => Or.inr (N y hy)).mono (by decide) (by decide)⟩⟩
theorem main_1_1 : Claimed_1_1 := comes_1 fun _ _ _ _ _ _ h hF => ⟨h.1, hF⟩
theorem main_1_2 : Claimed_1_2 := comes_1 fun _ _ _ _ _ _ h hF => ⟨h.2.1, hF⟩
end Jvm.Pilot.@@N@@
namespace Jvm.Pilot.@@N@@
open Jvm Jvm.ClassFile Sem Op Lib Jvm.Free Jvm.Stand Jvm.Pilot.@@N@@.Jvm.D
/-! MADE BY PROGRAM (witnessworld.py) out of the Statement's table words and the real class files: 9 classes; the members and pool entries that the words name. The judged class is class 1, her method 2. -/
namespace start1
open Jvm.ClassFile
def u (s : String) : CpInfo := .utf8 (stringToUtf16 s)
/-- a pool by its gaps: so many unusable entries, then the entry; so many at the end -/
def gap : Nat → List CpInfo → List CpInfo
  | 0, r => r
  | n + 1, r => .unusable :: gap n r
def poolList (es : List (Nat × CpInfo)) (last : Nat) : List CpInfo := es.foldr (fun e r => gap e.1 (e.2 :: r)) (gap last [])
def pool (es : List (Nat × CpInfo)) (last : Nat) : Array CpInfo := ⟨poolList es last⟩
def fileOf (pool : Array CpInfo) (this : Nat) (attrs : Array Attribute := #[]) (ms : Array MethodInfo := #[]) (fl : Nat := 33) (sup : Nat := 0) (ifs : Array Nat := #[]) (fds : Array FieldInfo := #[]) : ClassFile where
  minorVersion := 0
  majorVersion := 65
  constantPool := pool
  accessFlags := fl
  thisClass := this
  superClass := sup
  interfaces := ifs
  fields := fds
  methods := ms
  attributes := attrs
def plain (name : String) (sup : Option ClassId) : Class where
  name := name
  kind := .ordinary
  loader := none
  accessFlags := 33
  super := sup
  interfaces := #[]
  cf := none
  fields := #[]
  methods := #[]
  instanceTypes := #[]
  staticTypes := #[]
  resolved := #[]
  callSites := []
  init := .initialized
  statics := none
  mirror := none

def pool0 : Array CpInfo := pool [(5, u "<init>"), (0, u "()V"), (1, .class_ 10), (1, u "java/lang/Object")] 113

def k0m0 : Method := { name := "<init>", desc := "()V", sig := { parameters := [], returnType := none }, accessFlags := 1, code := none }
/-- java/lang/Object -/
def k0 : Class := { plain "java/lang/Object" none with
  accessFlags := 33
  interfaces := #[]
  cf := some (fileOf pool0 8 #[] #[{ accessFlags := 1, nameIndex := 5, descriptorIndex := 6, attributes := #[] }] 33 0 #[] #[])
  fields := #[]
  methods := #[k0m0]
  instanceTypes := #[]
  staticTypes := #[]
  resolved := Array.replicate 124 none
  statics := none }

def pool1 : Array CpInfo := pool [(2, .class_ 4), (1, u "java/lang/Object"), (0, u "<init>"), (0, u "()V"), (0, .methodref 8 9), (0, .class_ 10), (0, .nameAndType 11 12), (0, u "linewarden/service/Sha256WordPinLaw"), (0, u "unsigned"), (0, u "(I)J"), (0, .long 16777216), (1, .long 65536), (1, .long 256), (1, .methodref 20 21), (0, .class_ 22), (0, .nameAndType 23 24), (0, u "linewarden/service/Sha256"), (0, u "word"), (0, u "([BI)I"), (0, .long 4294967295), (3, u "law"), (0, u "(IIIIII)Z")] 5

def k1m0 : Method := { name := "<init>", desc := "()V", sig := { parameters := [], returnType := none }, accessFlags := 2, code := none }
def k1c1 : Code := { maxStack := 2, maxLocals := 1, code := method_2_code, exceptionTable := #[], attributes := #[] }
def k1m1 : Method := { name := "unsigned", desc := "(I)J", sig := { parameters := [.int], returnType := some .long }, accessFlags := 10, code := some k1c1 }
def k1c2 : Code := { maxStack := 6, maxLocals := 11, code := code, exceptionTable := #[], attributes := #[] }
def k1m2 : Method := { name := "law", desc := "(IIIIII)Z", sig := { parameters := [.int, .int, .int, .int, .int, .int], returnType := some .boolean }, accessFlags := 9, code := some k1c2 }
/-- linewarden/service/Sha256WordPinLaw -/
def k1 : Class := { plain "linewarden/service/Sha256WordPinLaw" (some 0) with
  accessFlags := 49
  interfaces := #[]
  cf := some (fileOf pool1 8 #[] #[{ accessFlags := 2, nameIndex := 5, descriptorIndex := 6, attributes := #[] }, { accessFlags := 10, nameIndex := 11, descriptorIndex := 12, attributes := #[] }, { accessFlags := 9, nameIndex := 29, descriptorIndex := 30, attributes := #[] }] 49 2 #[] #[])
  fields := #[]
  methods := #[k1m0, k1m1, k1m2]
  instanceTypes := #[]
  staticTypes := #[]
  resolved := Array.replicate 36 none
  statics := none }

def pool2 : Array CpInfo := pool [(2, .class_ 4), (1, u "java/lang/Object"), (0, u "<init>"), (0, u "()V"), (1, .class_ 10), (1, u "linewarden/service/Sha256"), (8, u "INITIAL"), (0, u "[I"), (10, u "AFTER_ONE_BLOCK"), (19, u "K"), (14, u "word"), (0, u "([BI)I"), (2, u "PADDING_AFTER_DIGEST"), (58, u "BLOCK_BYTES"), (0, u "I"), (2, u "BLOCK_WORDS"), (1, u "STATE_WORDS"), (1, u "SCHEDULE_WORDS"), (18, .class_ 157), (0, u "linewarden/service/Sha256$Lanes")] 2

def k2m0 : Method := { name := "<init>", desc := "()V", sig := { parameters := [], returnType := none }, accessFlags := 2, code := none }
def k2c1 : Code := { maxStack := 4, maxLocals := 2, code := prog_133_method_10_code, exceptionTable := #[], attributes := #[] }
def k2m1 : Method := { name := "word", desc := "([BI)I", sig := { parameters := [(.array .byte), .int], returnType := some .int }, accessFlags := 8, code := some k2c1 }
/-- linewarden/service/Sha256 -/
def k2 : Class := { plain "linewarden/service/Sha256" (some 0) with
  accessFlags := 49
  interfaces := #[]
  cf := some (fileOf pool2 8 #[.nestMembers #[156]] #[{ accessFlags := 2, nameIndex := 5, descriptorIndex := 6, attributes := #[] }, { accessFlags := 8, nameIndex := 66, descriptorIndex := 67, attributes := #[] }] 49 2 #[] #[{ accessFlags := 24, nameIndex := 19, descriptorIndex := 20, attributes := #[] }, { accessFlags := 25, nameIndex := 129, descriptorIndex := 130, attributes := #[] }, { accessFlags := 25, nameIndex := 133, descriptorIndex := 130, attributes := #[] }, { accessFlags := 25, nameIndex := 135, descriptorIndex := 130, attributes := #[] }, { accessFlags := 25, nameIndex := 137, descriptorIndex := 130, attributes := #[] }, { accessFlags := 26, nameIndex := 51, descriptorIndex := 20, attributes := #[] }, { accessFlags := 26, nameIndex := 70, descriptorIndex := 20, attributes := #[] }, { accessFlags := 26, nameIndex := 31, descriptorIndex := 20, attributes := #[] }])
  fields := #[{ name := "INITIAL", type := (.array .int), accessFlags := 24, slot := 0, constantValue := 0 }, { name := "BLOCK_BYTES", type := .int, accessFlags := 25, slot := 1, constantValue := 0 }, { name := "BLOCK_WORDS", type := .int, accessFlags := 25, slot := 2, constantValue := 0 }, { name := "STATE_WORDS", type := .int, accessFlags := 25, slot := 3, constantValue := 0 }, { name := "SCHEDULE_WORDS", type := .int, accessFlags := 25, slot := 4, constantValue := 0 }, { name := "K", type := (.array .int), accessFlags := 26, slot := 5, constantValue := 0 }, { name := "PADDING_AFTER_DIGEST", type := (.array .int), accessFlags := 26, slot := 6, constantValue := 0 }, { name := "AFTER_ONE_BLOCK", type := (.array .int), accessFlags := 26, slot := 7, constantValue := 0 }]
  methods := #[k2m0, k2m1]
  instanceTypes := #[]
  staticTypes := #[(.array .int), .int, .int, .int, .int, (.array .int), (.array .int), (.array .int)]
  resolved := Array.replicate 160 none
  statics := none }

def pool3 : Array CpInfo := pool [(1, u "java/lang/Cloneable"), (0, .class_ 1), (0, u "java/lang/Object"), (0, .class_ 3)] 3

/-- java/lang/Cloneable -/
def k3 : Class := { plain "java/lang/Cloneable" (some 0) with
  accessFlags := 1537
  interfaces := #[]
  cf := some (fileOf pool3 2 #[] #[] 1537 4 #[] #[])
  fields := #[]
  methods := #[]
  instanceTypes := #[]
  staticTypes := #[]
  resolved := Array.replicate 8 none
  statics := none }

def pool4 : Array CpInfo := pool [(1, u "java/io/Serializable"), (0, .class_ 1), (0, u "java/lang/Object"), (0, .class_ 3)] 3

/-- java/io/Serializable -/
def k4 : Class := { plain "java/io/Serializable" (some 0) with
  accessFlags := 1537
  interfaces := #[]
  cf := some (fileOf pool4 2 #[] #[] 1537 4 #[] #[])
  fields := #[]
  methods := #[]
  instanceTypes := #[]
  staticTypes := #[]
  resolved := Array.replicate 8 none
  statics := none }

/-- the primitive byte -/
def k5 : Class := { plain "byte" none with kind := .primitive 'B', accessFlags := 0x411 }
/-- [B -/
def k6 : Class := { plain "[B" (some 0) with kind := .array 5 .byte, interfaces := #[3, 4], accessFlags := 1041 }

/-- the primitive int -/
def k7 : Class := { plain "int" none with kind := .primitive 'I', accessFlags := 0x411 }
/-- [I -/
def k8 : Class := { plain "[I" (some 0) with kind := .array 7 .int, interfaces := #[3, 4], accessFlags := 1041 }

def heap : Heap := #[]
def classes : Array Class := #[k0, k1, k2, k3, k4, k5, k6, k7, k8]
def interned : List (Array UInt16 × Addr) := []
def slotsUsed : Nat := 0
def theMethod : MethodId := ⟨1, 2⟩
def args0 : Array Value := #[.int 1, .int 2, .int 3, .int 1, .int 7, .int 2]
def aboutOver (below : List Frame) : State where
  vm := { classes := classes, interned := interned.toArray }
  heap := heap
  slotsUsed := slotsUsed
  threads := #[{ frames := .invoking theMethod args0 :: below }]
def below0 : List Frame := [.native { method := ⟨0, 0⟩, args := #[] }]
def about1 : State := aboutOver below0
def p0 : Program := .bare "" "" ""
def e0 : Env := launch0.env 0 0 0
theorem w_frames : about1.frames = Frame.invoking theMethod args0 :: below0 := rfl
set_option maxRecDepth 65536 in
theorem w_args : argsFit about1.vm theMethod args0 = true := by decide +kernel
set_option maxRecDepth 65536 in
theorem w_heap : heapFits about1 = true := by decide +kernel
set_option maxRecDepth 65536 in
theorem w_runnable : about1.curStatus? = some .runnable := by decide +kernel
set_option maxRecDepth 65536 in
theorem w_alone : about1.alone = true := by decide +kernel
set_option maxRecDepth 65536 in
theorem w_named : about1.methodNamed? x = some theMethod := by decide +kernel
set_option maxRecDepth 65536 in
theorem w_hears : about1.hears theMethod below0 = true := by decide +kernel
set_option maxRecDepth 65536 in
theorem w_ripe : about1.ripe theMethod args0 below0 = true := by decide +kernel
theorem w_running : about1.status = .running := rfl
set_option maxRecDepth 65536 in
theorem w_room : about1.hasRoom e0.platform room_1 = true :=
  launch0.hasRoom_least _ room_1 (by decide +kernel) (by decide +kernel) (by decide +kernel) (by decide +kernel) (by decide +kernel) (by decide +kernel)
theorem allAtoms_all (ts : List Jvm.Cond) (a : Array Jvm.Value) (st : Jvm.State) : (allAtoms ts).before a st = ts.all (fun c => c.before a st) := by
  induction ts with
  | nil => rfl
  | cons c t ih =>
    show (Jvm.Cond.and c (allAtoms t)).before a st = _
    rw [Jvm.Cond.before_and, ih, List.all_cons]
def words1 : List Jvm.Cond := Jvm.Cond.code x code maxLocals ret :: tables_1
/-- a 'code' word, met by the world's own term for the bytes: nothing is compared byte by byte -/
theorem code_word {y : MethodName} {bytes : ByteArray} {mx : Nat} {rt : Option FieldType} {a : Array Value} {s : State} {m : MethodId} {meth : Method} {c : Code} (h1 : s.methodNamed? y = some m) (h2 : s.vm.method? m = some meth) (h3 : meth.code = some c) (h4 : c.code = bytes)
    (h5 : (c.maxLocals == mx && c.exceptionTable.isEmpty && decide (c.maxStack ≤ mostOperands) && decide (meth.sig.returnType = rt) && !meth.locks && decide (parseMethodDescriptor y.desc = some meth.sig)) = true) : (Jvm.Cond.code y bytes mx rt).before a s = true := by
  simp only [Bool.and_eq_true, beq_iff_eq, Bool.not_eq_true', decide_eq_true_eq] at h5
  obtain ⟨⟨⟨⟨⟨g1, g2⟩, g3⟩, g4⟩, g5⟩, g6⟩ := h5
  simp [Cond.before, Cond.holds, Cond.value, h1, h2, h3, h4, g1, g2, g3, g4, g5, g6]
def isCode : Jvm.Cond → Bool
  | .code _ _ _ _ => true
  | _ => false
theorem all_split {L : List Jvm.Cond} {P : Jvm.Cond → Bool} (h1 : L.all (fun c => isCode c || P c) = true) (h2 : ∀ c ∈ L.filter isCode, P c = true) : L.all P = true := by
  refine List.all_eq_true.mpr fun c hc => ?_
  have h := List.all_eq_true.mp h1 c hc
  rcases Bool.eq_false_or_eq_true (isCode c) with hi | hi
  · exact h2 c (List.mem_filter.mpr ⟨hc, hi⟩)
  · simpa [hi] using h
set_option maxRecDepth 65536 in
theorem w_c0 : (Jvm.Cond.code x code maxLocals ret).before args0 about1 = true := code_word (m := ⟨1, 2⟩) (meth := k1m2) (c := k1c2) (by decide +kernel) rfl rfl rfl (by decide +kernel)
set_option maxRecDepth 65536 in
theorem w_c1 : (Jvm.Cond.code ({ cls := "linewarden/service/Sha256WordPinLaw", name := "unsigned", desc := "(I)J" } : Jvm.MethodName) method_2_code (1 : Nat) (Option.some Jvm.ClassFile.FieldType.long)).before args0 about1 = true := code_word (m := ⟨1, 1⟩) (meth := k1m1) (c := k1c1) (by decide +kernel) rfl rfl rfl (by decide +kernel)
set_option maxRecDepth 65536 in
theorem w_c2 : (Jvm.Cond.code ({ cls := "linewarden/service/Sha256", name := "word", desc := "([BI)I" } : Jvm.MethodName) prog_133_method_10_code (2 : Nat) (Option.some Jvm.ClassFile.FieldType.int)).before args0 about1 = true := code_word (m := ⟨2, 1⟩) (meth := k2m1) (c := k2c1) (by decide +kernel) rfl rfl rfl (by decide +kernel)
def codes1 : List Jvm.Cond := [Jvm.Cond.code x code maxLocals ret, Jvm.Cond.code ({ cls := "linewarden/service/Sha256WordPinLaw", name := "unsigned", desc := "(I)J" } : Jvm.MethodName) method_2_code (1 : Nat) (Option.some Jvm.ClassFile.FieldType.long), Jvm.Cond.code ({ cls := "linewarden/service/Sha256", name := "word", desc := "([BI)I" } : Jvm.MethodName) prog_133_method_10_code (2 : Nat) (Option.some Jvm.ClassFile.FieldType.int)]
set_option maxRecDepth 65536 in
theorem codes_eq : words1.filter isCode = codes1 := rfl
theorem w_codes : ∀ c ∈ words1.filter isCode, c.before args0 about1 = true := by
  rw [codes_eq]
  intro c hc
  simp only [codes1, List.mem_cons, List.not_mem_nil, or_false] at hc
  rcases hc with rfl | rfl | rfl
  · exact w_c0
  · exact w_c1
  · exact w_c2
set_option maxRecDepth 65536 in
theorem w_t1 : words1.all (fun c => isCode c || c.before args0 about1) = true := by decide +kernel
theorem w_tables : (allAtoms (Jvm.Cond.code x code maxLocals ret :: tables_1)).before args0 about1 = true := by
  rw [allAtoms_all]
  show words1.all (fun c => c.before args0 about1) = true
  refine all_split ?_ w_codes
  rw [w_t1]
set_option maxRecDepth 65536 in
theorem w_case : (Jvm.Cond.and given_1 narrow_1).before args0 about1 = true := by decide +kernel
theorem w_applies : (headSpec (Jvm.Cond.code x code maxLocals ret :: tables_1) room_1).applies x e0.platform about1 = true :=
  (Spec.applies_iff w_frames).mpr ⟨w_running, w_runnable, w_alone, w_named, w_hears, w_ripe, w_room, w_tables⟩
theorem atStart : AtStart classFile x code maxLocals ret World_1 tables_1 room_1 Calls_1 rest_1 Pre_1 launch0 p0 e0 about1 theMethod args0 below0 :=
  ⟨lists_1, trivial, launch0.admits_env _ _ _, launch0.least_env, fairChoices_fair.cas, fairChoices_fair.clock, w_frames, w_args, w_heap, w_applies, trivial, trivial, w_case⟩
end start1
theorem witness_1 : WitnessClaimed_1 := ⟨start1.p0, start1.e0, start1.about1, start1.theMethod, start1.args0, start1.below0, start1.atStart⟩
end Jvm.Pilot.@@N@@
