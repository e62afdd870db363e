import JvmDerived
import JvmDerived.Pilot.@@N@@Statement
import JvmDerived.Pilot.@@N@@Code
set_option linter.unusedVariables false
set_option linter.unusedSimpArgs false
namespace Jvm.Pilot.@@N@@
open Jvm Jvm.ClassFile Sem Op Lib Jvm.Free Jvm.Stand Jvm.LawKit Jvm.RoadKit Bundle Jvm.Pilot.@@N@@.Jvm.D
/-! my own layer: a body's walk by a predicate on states (go: one step on, fin: a return), arrays by their elements -/
theorem own_metfree {l : Launch} {x : MethodName} {ws : List Jvm.Cond} {R : Room} {code : ByteArray} {maxL : Nat} {ret : Option FieldType} {as' : Array Value} {Z : State} {h0 : Heap} {Q : Option Value → Heap → List Loc → Prop} (hpl : plainFor x = true)
    (body : ∀ (p : Program) (e : Env) (s : State) (m : MethodId) (below : List Frame) (meth : Method) (c : Code) (s₁ : State),
      Stand p l e R s m as' below meth c s₁ [] 0 0 → p.tables.exec = Jvm.exec → c.code = code → c.maxLocals = maxL → meth.sig.returnType = ret → s.vm.findClass x.cls = some m.cls → meth.name = x.name → Z.Warmed39 s.vm → s₁.heap = h0 →
      ∀ G : State → Prop, (∀ U U', (∀ t, Steps p.tables e below U' t → Steps p.tables e below U t) → G U' → G U) →
        (∀ {T : State} {locs : List Loc} {cells slots : Nat} (v : Option Value) (g : JFrame), Stand p l e R s m as' below meth c T locs cells slots → (ret = none → v = none) →
          (∀ fs, (∀ (f : JFrame) (acts : List Action), f.method = m → f.locked = none → f.entered = [] → (doReturn e (T.setTop f) acts v).1 = T.setFrames fs) → Steps p.tables e below (T.setTop g) (T.setFrames fs)) →
          Q v T.heap locs → cells ≤ R.cells → slots ≤ R.slots → G (T.setTop g)) →
        G (s₁.setTop (entryFrame m as' maxL))) :
    MetFree l x (head1 (Jvm.Cond.code x code maxL ret :: ws) R) (fun a U => a = as' ∧ Z.Warmed39 U.vm ∧ U.heap = h0) (fun _ _ _ _ _ => True) (fun _ U o U' => ∃ v L, o = .returned v ∧ Q v U'.heap L ∧ FrameEnd U o U' L R.cells R.slots) := by
  refine MetFree.of_bodySF hpl hisR ?_
  intro p e s m args below meth c s₁ Bd hml0 hP hK
  obtain ⟨rfl, hZ, hh⟩ := hP
  have X0 : Stand p l e R s m args below meth c s₁ [] 0 0 := Stand.of_body Bd
  refine body p e s m below meth c s₁ X0 Bd.exec Bd.bytes hml0 Bd.returns (findClass_of_methodNamed Bd.named) (name_of_methodNamed Bd.named Bd.method).1 hZ (by rw [← hh, Bd.state]; rfl)
    (fun U => ∃ s₂ o, Steps p.tables e below U s₂ ∧ s₂.status = .running ∧ Ended s₂ below o ∧ ∃ v L, o = .returned v ∧ Q v s₂.heap L ∧ FrameEnd s o s₂ L R.cells R.slots) ?_ ?_
  · rintro U U' h ⟨s₂, o, h1, h2⟩
    exact ⟨s₂, o, h _ h1, h2⟩
  · intro T locs cells slots v g X hv hst hq hc hs
    obtain ⟨fs, hr, hrun, hended, hW, hsame⟩ := X.leave (v := v) (by rw [Bd.returns]; exact hv)
    exact ⟨_, _, hst fs hr, hrun, hended, _, _, rfl, hq, ⟨_, rfl⟩, hW, hsame.mono hc hs⟩
theorem own_lrem {tb : Tables} [Ours tb] {e : Env} {below : List Frame} {T target : State} {m : MethodId} {c : Code} {g : JFrame} (h : At T m c below) (hx : tb.exec = Jvm.exec) (hg : g.method = m) {x y : Int64} {rest : List Value} (hd : decode c.code g.pc = .ok (.lrem, 1)) (hs : g.stack = .long y :: .long x :: rest) (hy : y ≠ 0)
    (hr : Steps tb e below (T.setTop { g with pc := g.pc + 1, stack := .long (x % y) :: rest }) target) : Steps tb e below (T.setTop g) target :=
  XS.lrem h hx hg hd hs hy (by rw [lrem_mod]; exact hr)
def own_iv : Value → Int32
  | .int x => x
  | _ => 0
def own_jv : Value → Int64
  | .long x => x
  | _ => 0
theorem own_iv_int (x : Int32) : own_iv (.int x) = x := rfl
theorem own_jv_long (x : Int64) : own_jv (.long x) = x := rfl
def own_up (f : Nat → Value) (i : Nat) (v : Value) : Nat → Value := fun k => if k = i then v else f k
theorem own_up_at (f : Nat → Value) (i : Nat) (v : Value) (k : Nat) : own_up f i v k = if k = i then v else f k := rfl
def own_Av (Z : State) (h : Heap) (a : Addr) (ty : FieldType) (n : Nat) (f : Nat → Value) : Prop := ∃ c : Cell, Arr Z h a c ty ∧ c.slots.size = n ∧ n < 2 ^ 31 ∧ ∀ i, i < n → c.slots[i]? = some (f i) ∧ fits ty (f i) = true
theorem own_Av.lt {Z : State} {h : Heap} {a : Addr} {ty : FieldType} {n : Nat} {f : Nat → Value} (A : own_Av Z h a ty n f) : a < h.size := by obtain ⟨c, Ar, -⟩ := A; exact Ar.lt
theorem own_Av.ext {Z : State} {h h' : Heap} {a : Addr} {ty : FieldType} {n : Nat} {f : Nat → Value} (A : own_Av Z h a ty n f) (E : Ext h h') : own_Av Z h' a ty n f := by obtain ⟨c, Ar, r⟩ := A; exact ⟨c, Ar.ext E, r⟩
theorem own_Av.other {Z : State} {h h' : Heap} {a b : Addr} {ty : FieldType} {n : Nat} {f : Nat → Value} {sl : Nat} {v : Value} (A : own_Av Z h a ty n f) (W : Wr h h' b sl v) (q : a ≠ b) : own_Av Z h' a ty n f := by obtain ⟨c, Ar, r⟩ := A; exact ⟨c, Ar.other W q, r⟩
theorem own_Av.keep {Z : State} {h h' : Heap} {a : Addr} {ty : FieldType} {n : Nat} {f : Nat → Value} {ws : List Addr} (A : own_Av Z h a ty n f) (K : Keep h h' ws) (q : a ∉ ws) : own_Av Z h' a ty n f := by obtain ⟨c, Ar, r⟩ := A; exact ⟨c, ⟨K.2.1 a c Ar.1 q, Ar.2⟩, r⟩
theorem own_Av.congr {Z : State} {h : Heap} {a : Addr} {ty : FieldType} {n : Nat} {f f' : Nat → Value} (A : own_Av Z h a ty n f) (q : ∀ i, i < n → f i = f' i) : own_Av Z h a ty n f' := by
  obtain ⟨c, Ar, h1, h2, h3⟩ := A
  exact ⟨c, Ar, h1, h2, fun i hi => by rw [← q i hi]; exact h3 i hi⟩
theorem own_Av.new {Z : State} {h : Heap} {a : Addr} {k : ClassId} {ty : FieldType} {z : Int32} {N : Nat} (A : Arr Z h a (newA k ty z) ty) (q : ¬ z < 0) (e : z.toNatClampNeg = N) : own_Av Z h a ty N (fun _ => defaultValue ty) := by
  have hs : (newA k ty z).slots.size = N := by rw [sz_new, e]
  refine ⟨_, A, hs, e ▸ (back32 q).2, fun i hi => ⟨?_, ?_⟩⟩
  · have hi' : i < (newA k ty z).slots.size := by rw [hs]; exact hi
    rw [Array.getElem?_eq_getElem hi']
    simp [newA]
  · cases ty <;> rfl
theorem own_nat {j : Int32} {i : Nat} (h : j.toInt = (i : Int)) : j.toNatClampNeg = i := by show j.toInt.toNat = i; omega
theorem own_nn {j : Int32} {i : Nat} (h : j.toInt = (i : Int)) : ¬ j < 0 := by
  rw [Int32.lt_iff_toInt_lt]
  have : (0 : Int32).toInt = 0 := by decide
  omega
theorem own_in {j : Int32} {i n : Nat} {cl : Cell} (hs : cl.slots.size = n) (h : j.toInt = (i : Int)) (hi : i < n) : ¬ (j < 0 ∨ cl.slots.size ≤ j.toNatClampNeg) := by
  rw [own_nat h, hs]; rintro (q | q)
  · exact own_nn h q
  · omega
theorem own_nar8 (y : Int32) : nar .byte y.toInt8.toInt32 = y.toInt8.toInt32 := by simp [nar]
theorem own_set {Z : State} {h h' : Heap} {a : Addr} {ty : FieldType} {n : Nat} {f : Nat → Value} {c : Cell} {i : Nat} {v : Value} (Ar : Arr Z h a c ty) (hs : c.slots.size = n) (hn : n < 2 ^ 31) (hf : ∀ i, i < n → c.slots[i]? = some (f i) ∧ fits ty (f i) = true) (W : Wr h h' a i v) (hv : fits ty v = true) (hi : i < n) : own_Av Z h' a ty n (own_up f i v) := by
  refine ⟨_, Ar.same W, by rw [sz_set]; exact hs, hn, fun k hk => ?_⟩
  simp only [own_up_at]
  by_cases q : k = i
  · subst q; simp [Cell.setSlot, hs, hi, hv]
  · rw [if_neg q]; refine ⟨?_, (hf k hk).2⟩; rw [← (hf k hk).1]; simp [Cell.setSlot, Array.getElem?_setIfInBounds, Ne.symm q]
section OwnArr
variable {p : Program} {l : Launch} {e : Env} {R : Room} {s : State} {m : MethodId} {args : Array Value} {below : List Frame} {meth : Method} {c : Code} {T : State} {locs : List Loc} {cells slots : Nat} {Z : State} {h : Heap} {a : Addr} {n : Nat} {f : Nat → Value}
theorem own_ldB (X : Stand p l e R s m args below meth c T locs cells slots) (hx : p.tables.exec = Jvm.exec) (hZ : Z.Warmed39 s.vm) (eT : T.heap = h) (A : own_Av Z h a .byte n f) {j : Int32} {i : Nat} (hj : j.toInt = (i : Int)) (hi : i < n) {g : JFrame} (hg : g.method = m) {rest : List Value} (hs : g.stack = .int j :: .ref a :: rest) (hd : decode c.code g.pc = .ok (.baload, 1)) (target : State)
    (k : Steps p.tables e below (T.setTop { g with pc := g.pc + 1, stack := .int (own_iv (f i)) :: rest }) target) : Steps p.tables e below (T.setTop g) target := by
  obtain ⟨cl, Ar, hsz, hn, hf⟩ := A
  have hat : cl.slots[j.toNatClampNeg]? = some (.int (own_iv (f i))) := by
    rw [own_nat hj, (hf i hi).1]; obtain ⟨x, q⟩ := fit_I (hf i hi).2 (by simp); rw [q]; rfl
  exact X.baloadBytes hx (by rw [eT]; exact Ar.1) (State.isArrayOf_alike hZ.alike Ar.2.1) Ar.2.2 (own_in hsz hj hi) hat hg hs hd target k
theorem own_ldI (X : Stand p l e R s m args below meth c T locs cells slots) (hx : p.tables.exec = Jvm.exec) (hZ : Z.Warmed39 s.vm) (eT : T.heap = h) (A : own_Av Z h a .int n f) {j : Int32} {i : Nat} (hj : j.toInt = (i : Int)) (hi : i < n) {g : JFrame} (hg : g.method = m) {rest : List Value} (hs : g.stack = .int j :: .ref a :: rest) (hd : decode c.code g.pc = .ok (.iaload, 1)) (target : State)
    (k : Steps p.tables e below (T.setTop { g with pc := g.pc + 1, stack := .int (own_iv (f i)) :: rest }) target) : Steps p.tables e below (T.setTop g) target := by
  obtain ⟨cl, Ar, hsz, hn, hf⟩ := A
  have hat : cl.slots[j.toNatClampNeg]? = some (.int (own_iv (f i))) := by
    rw [own_nat hj, (hf i hi).1]; obtain ⟨x, q⟩ := fit_I (hf i hi).2 (by simp); rw [q]; rfl
  exact X.iaload hx (by rw [eT]; exact Ar.1) (State.isArrayOf_alike hZ.alike Ar.2.1) Ar.2.2 (own_in hsz hj hi) hat hg hs hd target k
theorem own_ldJ (X : Stand p l e R s m args below meth c T locs cells slots) (hx : p.tables.exec = Jvm.exec) (hZ : Z.Warmed39 s.vm) (eT : T.heap = h) (A : own_Av Z h a .long n f) {j : Int32} {i : Nat} (hj : j.toInt = (i : Int)) (hi : i < n) {g : JFrame} (hg : g.method = m) {rest : List Value} (hs : g.stack = .int j :: .ref a :: rest) (hd : decode c.code g.pc = .ok (.laload, 1)) (target : State)
    (k : Steps p.tables e below (T.setTop { g with pc := g.pc + 1, stack := .long (own_jv (f i)) :: rest }) target) : Steps p.tables e below (T.setTop g) target := by
  obtain ⟨cl, Ar, hsz, hn, hf⟩ := A
  have hat : cl.slots[j.toNatClampNeg]? = some (.long (own_jv (f i))) := by
    rw [own_nat hj, (hf i hi).1]; obtain ⟨x, q⟩ := fit_J (hf i hi).2; rw [q]; rfl
  exact X.laload hx (by rw [eT]; exact Ar.1) (State.isArrayOf_alike hZ.alike Ar.2.1) Ar.2.2 (own_in hsz hj hi) hat hg hs hd target k
theorem own_len (X : Stand p l e R s m args below meth c T locs cells slots) (hx : p.tables.exec = Jvm.exec) (hZ : Z.Warmed39 s.vm) (eT : T.heap = h) {ty : FieldType} (A : own_Av Z h a ty n f) {z : Int32} (hz : z.toInt = (n : Int)) {g : JFrame} (hg : g.method = m) {rest : List Value} (hs : g.stack = .ref a :: rest) (hd : decode c.code g.pc = .ok (.arraylength, 1)) (target : State)
    (k : Steps p.tables e below (T.setTop { g with pc := g.pc + 1, stack := .int z :: rest }) target) : Steps p.tables e below (T.setTop g) target := by
  obtain ⟨cl, Ar, hsz, hn, hf⟩ := A
  refine X.arraylength hx (by rw [eT]; exact Ar.1) (State.isArrayOf_alike hZ.alike Ar.2.1) hg hs hd target ?_
  rw [len_of (z := z) (by rw [hsz, own_nat hz]) (own_nn hz)]; exact k
theorem own_stB (X : Stand p l e R s m args below meth c T locs cells slots) (hx : p.tables.exec = Jvm.exec) (hZ : Z.Warmed39 s.vm) (eT : T.heap = h) (A : own_Av Z h a .byte n f) {j x : Int32} {i : Nat} (hj : j.toInt = (i : Int)) (hi : i < n) {g : JFrame} (hg : g.method = m) {rest : List Value} (hs : g.stack = .int x :: .int j :: .ref a :: rest) (hd : decode c.code g.pc = .ok (.bastore, 1)) :
    ∃ T' h', Stand p l e R s m args below meth c T' (locs ++ [⟨a, i⟩]) cells slots ∧ T'.heap = h' ∧ Wr h h' a i (.int (nar .byte x)) ∧ own_Av Z h' a .byte n (own_up f i (.int (nar .byte x))) ∧ ∀ target, Steps p.tables e below (T'.setTop { g with pc := g.pc + 1, stack := rest }) target → Steps p.tables e below (T.setTop g) target := by
  obtain ⟨cl, Ar, hsz, hn, hf⟩ := A
  obtain ⟨T', h', X', e', W, st⟩ := stB X hx hZ eT Ar (own_in hsz hj hi) hg hs hd
  rw [own_nat hj] at X' W
  exact ⟨T', h', X', e', W, own_set Ar hsz hn hf W (fits_nar_byte _) hi, st⟩
theorem own_stI (X : Stand p l e R s m args below meth c T locs cells slots) (hx : p.tables.exec = Jvm.exec) (hZ : Z.Warmed39 s.vm) (eT : T.heap = h) (A : own_Av Z h a .int n f) {j x : Int32} {i : Nat} (hj : j.toInt = (i : Int)) (hi : i < n) {g : JFrame} (hg : g.method = m) {rest : List Value} (hs : g.stack = .int x :: .int j :: .ref a :: rest) (hd : decode c.code g.pc = .ok (.iastore, 1)) :
    ∃ T' h', Stand p l e R s m args below meth c T' (locs ++ [⟨a, i⟩]) cells slots ∧ T'.heap = h' ∧ Wr h h' a i (.int x) ∧ own_Av Z h' a .int n (own_up f i (.int x)) ∧ ∀ target, Steps p.tables e below (T'.setTop { g with pc := g.pc + 1, stack := rest }) target → Steps p.tables e below (T.setTop g) target := by
  obtain ⟨cl, Ar, hsz, hn, hf⟩ := A
  obtain ⟨T', h', X', e', W, st⟩ := stI X hx hZ eT Ar (own_in hsz hj hi) hg hs hd
  rw [own_nat hj] at X' W
  exact ⟨T', h', X', e', W, own_set Ar hsz hn hf W rfl hi, st⟩
theorem own_stJ (X : Stand p l e R s m args below meth c T locs cells slots) (hx : p.tables.exec = Jvm.exec) (hZ : Z.Warmed39 s.vm) (eT : T.heap = h) (A : own_Av Z h a .long n f) {j : Int32} {x : Int64} {i : Nat} (hj : j.toInt = (i : Int)) (hi : i < n) {g : JFrame} (hg : g.method = m) {rest : List Value} (hs : g.stack = .long x :: .int j :: .ref a :: rest) (hd : decode c.code g.pc = .ok (.lastore, 1)) :
    ∃ T' h', Stand p l e R s m args below meth c T' (locs ++ [⟨a, i⟩]) cells slots ∧ T'.heap = h' ∧ Wr h h' a i (.long x) ∧ own_Av Z h' a .long n (own_up f i (.long x)) ∧ ∀ target, Steps p.tables e below (T'.setTop { g with pc := g.pc + 1, stack := rest }) target → Steps p.tables e below (T.setTop g) target := by
  obtain ⟨cl, Ar, hsz, hn, hf⟩ := A
  obtain ⟨T', h', X', e', W, st⟩ := stJ X hx hZ eT Ar (own_in hsz hj hi) hg hs hd
  rw [own_nat hj] at X' W
  exact ⟨T', h', X', e', W, own_set Ar hsz hn hf W rfl hi, st⟩
end OwnArr
def own_wd (x0 x1 x2 x3 : Int32) : Int32 := (((((x0 &&& (255 : Int32)) <<< ((24 : Int32) &&& 31)) ||| ((x1 &&& (255 : Int32)) <<< ((16 : Int32) &&& 31))) ||| ((x2 &&& (255 : Int32)) <<< ((8 : Int32) &&& 31))) ||| (x3 &&& (255 : Int32)))
theorem own_wd_val (x0 x1 x2 x3 : Int32) : ((own_wd x0 x1 x2 x3).toInt - ((x0.toInt % 256) * 16777216 + (x1.toInt % 256) * 65536 + (x2.toInt % 256) * 256 + x3.toInt % 256)) % 4294967296 = 0 := by
  have m0 := c_mask x0 (255 : Int32) 8 (by decide) (by decide)
  have m1 := c_mask x1 (255 : Int32) 8 (by decide) (by decide)
  have m2 := c_mask x2 (255 : Int32) 8 (by decide) (by decide)
  have m3 := c_mask x3 (255 : Int32) 8 (by decide) (by decide)
  rw [own_wd]
  generalize (x0 &&& (255 : Int32)) = y0 at *
  generalize (x1 &&& (255 : Int32)) = y1 at *
  generalize (x2 &&& (255 : Int32)) = y2 at *
  generalize (x3 &&& (255 : Int32)) = y3 at *
  have s0 := c_ishl y0 (24 : Int32) 24 (by decide)
  have s1 := c_ishl y1 (16 : Int32) 16 (by decide)
  have s2 := c_ishl y2 (8 : Int32) 8 (by decide)
  have r0 := rng32 (y0 <<< ((24 : Int32) &&& 31))
  have r1 := rng32 (y1 <<< ((16 : Int32) &&& 31))
  have r2 := rng32 (y2 <<< ((8 : Int32) &&& 31))
  generalize (y0 <<< ((24 : Int32) &&& 31)) = z0 at *
  generalize (y1 <<< ((16 : Int32) &&& 31)) = z1 at *
  generalize (y2 <<< ((8 : Int32) &&& 31)) = z2 at *
  have o1 := c_or z0 z1 24 (by decide) 16777216 (by decide) (by omega) (by omega) (by omega)
  have q1 := rng32 (z0 ||| z1)
  generalize (z0 ||| z1) = w1 at *
  have o2 := c_or w1 z2 16 (by decide) 65536 (by decide) (by omega) (by omega) (by omega)
  have q2 := rng32 (w1 ||| z2)
  generalize (w1 ||| z2) = w2 at *
  have o3 := c_or w2 y3 8 (by decide) 256 (by decide) (by omega) (by omega) (by omega)
  omega
theorem own_add {v : Int32} {i : Nat} {k : Int32} {n : Nat} (h : v.toInt = (i : Int)) (hk : k.toInt = (n : Int)) (hb : i + n < 1000) : (v + k).toInt = ((i + n : Nat) : Int) := by
  have h1 := c_iadd v k
  have h2 := rng32 (v + k)
  omega
def own_b3 (w : Int32) : Int32 := (((w.toUInt32 >>> ((24 : Int32) &&& 31).toUInt32).toInt32).toInt8.toInt32)
def own_b2 (w : Int32) : Int32 := (((w.toUInt32 >>> ((16 : Int32) &&& 31).toUInt32).toInt32).toInt8.toInt32)
def own_b1 (w : Int32) : Int32 := (((w.toUInt32 >>> ((8 : Int32) &&& 31).toUInt32).toInt32).toInt8.toInt32)
def own_b0 (w : Int32) : Int32 := (w.toInt8.toInt32)
theorem own_bv (w : Int32) : (own_b3 w).toInt % 256 = (w.toInt % 4294967296) / 16777216 ∧ (own_b2 w).toInt % 256 = ((w.toInt % 4294967296) / 65536) % 256 ∧ (own_b1 w).toInt % 256 = ((w.toInt % 4294967296) / 256) % 256 ∧ (own_b0 w).toInt % 256 = (w.toInt % 4294967296) % 256 := by
  have h3 := c_iushr w (24 : Int32) 24 (by decide) (by decide)
  have h2 := c_iushr w (16 : Int32) 16 (by decide) (by decide)
  have h1 := c_iushr w (8 : Int32) 8 (by decide) (by decide)
  have k3 := c_i2b ((w.toUInt32 >>> ((24 : Int32) &&& 31).toUInt32).toInt32)
  have k2 := c_i2b ((w.toUInt32 >>> ((16 : Int32) &&& 31).toUInt32).toInt32)
  have k1 := c_i2b ((w.toUInt32 >>> ((8 : Int32) &&& 31).toUInt32).toInt32)
  have k0 := c_i2b w
  rw [own_b3, own_b2, own_b1, own_b0]
  refine ⟨?_, ?_, ?_, ?_⟩ <;> omega
theorem own_back (w : Int32) : own_wd (own_b3 w) (own_b2 w) (own_b1 w) (own_b0 w) = w := by
  have h := own_wd_val (own_b3 w) (own_b2 w) (own_b1 w) (own_b0 w)
  obtain ⟨e3, e2, e1, e0⟩ := own_bv w
  rw [e3, e2, e1, e0] at h
  have r := rng32 w
  have r' := rng32 (own_wd (own_b3 w) (own_b2 w) (own_b1 w) (own_b0 w))
  apply Int32.toInt_inj.mp
  omega
def own_pw (f : Nat → Value) (i : Nat) (w : Int32) : Nat → Value := own_up (own_up (own_up (own_up f i (.int (own_b3 w))) (i + 1) (.int (own_b2 w))) (i + 2) (.int (own_b1 w))) (i + 3) (.int (own_b0 w))
theorem own_pw_out (f : Nat → Value) (i : Nat) (w : Int32) (k : Nat) (h : k < i ∨ i + 3 < k) : own_pw f i w k = f k := by
  simp only [own_pw, own_up_at]
  rw [if_neg (by omega), if_neg (by omega), if_neg (by omega), if_neg (by omega)]
theorem own_pw_in (f : Nat → Value) (i : Nat) (w : Int32) : own_pw f i w i = .int (own_b3 w) ∧ own_pw f i w (i + 1) = .int (own_b2 w) ∧ own_pw f i w (i + 2) = .int (own_b1 w) ∧ own_pw f i w (i + 3) = .int (own_b0 w) := by
  simp [own_pw, own_up_at]
theorem own_off (q : Int32) : ∃ i : Nat, ((q &&& (2147483647 : Int32)) % (5 : Int32)).toInt = (i : Int) ∧ i ≤ 4 := by
  have h1 := c_mask q (2147483647 : Int32) 31 (by decide) (by decide)
  have h2 := (c_irem (q &&& (2147483647 : Int32)) (5 : Int32) 5 (by decide)).1 (by omega)
  exact ⟨((q &&& (2147483647 : Int32)) % (5 : Int32)).toInt.toNat, by omega, by omega⟩
theorem own_u (w : Int32) : (w.toInt64 &&& (4294967295 : Int64)).toInt = w.toInt % 4294967296 := by
  have h := c_maskL w.toInt64 (4294967295 : Int64) 32 (by decide) (by decide)
  rw [c_i2l] at h
  simpa using h
/-- what the law asks of the byte at k, the word's first place being i -/
def own_ask (f : Nat → Value) (i k : Nat) (u : Int) : Prop := ∀ d : Nat, d ≤ 3 → k = i + d → (own_iv (f k)).toInt % 256 = (if d = 0 then u / 16777216 else if d = 1 then (u / 65536) % 256 else if d = 2 then (u / 256) % 256 else u % 256)
theorem own_asked (f : Nat → Value) (i k : Nat) (w : Int32) : own_ask (own_pw f i w) i k (w.toInt64 &&& (4294967295 : Int64)).toInt := by
  intro d hd e
  subst e
  obtain ⟨e3, e2, e1, e0⟩ := own_bv w
  obtain ⟨p0, p1, p2, p3⟩ := own_pw_in f i w
  rw [own_u]
  match d, hd with
  | 0, _ => rw [show i + 0 = i from rfl, p0]; simpa [own_iv_int] using e3
  | 1, _ => rw [p1]; simpa [own_iv_int] using e2
  | 2, _ => rw [p2]; simpa [own_iv_int] using e1
  | 3, _ => rw [p3]; simpa [own_iv_int] using e0
theorem own_sh0 (x : Int64) : ((x.toUInt64 >>> ((((8 : Int32) * (0 : Int32)) &&& 0x3f).toInt64.toUInt64)).toInt64) = x := by
  have e : ((((8 : Int32) * (0 : Int32)) &&& 0x3f).toInt64.toUInt64) = 0 := by decide
  rw [e]; simp
theorem own_eqb {f : Nat → Value} {i k : Nat} {p1 p2 : Int32} {u ex : Int64} {d : Nat} (ha : own_ask f i k u.toInt) (hd : d ≤ 3) (hk : k = i + d) (hx : ex.toInt = (if d = 0 then u.toInt / 16777216 else if d = 1 then (u.toInt / 65536) % 256 else if d = 2 then (u.toInt / 256) % 256 else u.toInt % 256)) : ((own_iv (f k)) &&& (255 : Int32)).toInt64 = ex := by
  have h := ha d hd hk
  have m := c_mask (own_iv (f k)) (255 : Int32) 8 (by decide) (by decide)
  apply Int64.toInt_inj.mp
  rw [c_i2l, hx]
  omega
theorem own_x0 (u : Int64) (hu : 0 ≤ u.toInt ∧ u.toInt < 4294967296) : (u / (16777216 : Int64)).toInt = u.toInt / 16777216 := (c_ldiv u (16777216 : Int64) 16777216 (by decide) (by decide)).1 hu.1
theorem own_x1 (u : Int64) (hu : 0 ≤ u.toInt ∧ u.toInt < 4294967296) : ((u / (65536 : Int64)) % (256 : Int64)).toInt = (u.toInt / 65536) % 256 := by
  have h1 := (c_ldiv u (65536 : Int64) 65536 (by decide) (by decide)).1 hu.1
  have h2 := (c_lrem (u / (65536 : Int64)) (256 : Int64) 256 (by decide)).1 (by omega)
  rw [lrem_mod] at h2
  rw [h2, h1]
theorem own_x2 (u : Int64) (hu : 0 ≤ u.toInt ∧ u.toInt < 4294967296) : ((u / (256 : Int64)) % (256 : Int64)).toInt = (u.toInt / 256) % 256 := by
  have h1 := (c_ldiv u (256 : Int64) 256 (by decide) (by decide)).1 hu.1
  have h2 := (c_lrem (u / (256 : Int64)) (256 : Int64) 256 (by decide)).1 (by omega)
  rw [lrem_mod] at h2
  rw [h2, h1]
theorem own_x3 (u : Int64) (hu : 0 ≤ u.toInt ∧ u.toInt < 4294967296) : (u % (256 : Int64)).toInt = u.toInt % 256 := by
  have h2 := (c_lrem u (256 : Int64) 256 (by decide)).1 hu.1
  rw [lrem_mod] at h2
  exact h2
theorem own_cmp {p1 p2 : Int32} {k i : Nat} (h1 : p1.toInt = (k : Int)) (h2 : p2.toInt = (i : Int)) (hi : i ≤ 4) (hk : k < 8) : (p1 < p2 ↔ k < i) ∧ ((p2 + (3 : Int32)) < p1 ↔ i + 3 < k) ∧ (i ≤ k → (p1 - p2).toInt = ((k - i : Nat) : Int)) := by
  have k3 : (3 : Int32).toInt = 3 := by decide
  have a1 := c_iadd p2 (3 : Int32)
  have r1 := rng32 (p2 + (3 : Int32))
  have a2 := c_isub p1 p2
  have r2 := rng32 (p1 - p2)
  simp only [Int32.lt_iff_toInt_lt]
  omega
theorem own_dist {x : Int32} {d : Nat} {n : Nat} {c : Int32} (h : x.toInt = (d : Int)) (hc : c.toInt = (n : Int)) : x = c ↔ d = n := by
  rw [← Int32.toInt_inj]; omega

theorem own_ef3 (m : MethodId) (o0 : Addr) (p1 : Int32) : entryFrame m #[(.ref o0), (.int p1)] 2 = mkF m 0 #[.val (.ref o0), .val (.int p1)] [] := by first | (simp [entryFrame, mkF, argsToLocals, Value.category]; done) | rfl
theorem own_pn3 : plainName "linewarden/service/Sha256" = true := by first | (simp [plainName, overriddenIn]; done) | decide +kernel
theorem d3_0 : decode prog_133_method_10_code 0 = .ok (.aload_n 0, 1) := by decide +kernel
theorem d3_1 : decode prog_133_method_10_code 1 = .ok (.iload_n 1, 1) := by decide +kernel
theorem d3_2 : decode prog_133_method_10_code 2 = .ok (.baload, 1) := by decide +kernel
theorem d3_3 : decode prog_133_method_10_code 3 = .ok (.sipush 255, 3) := by decide +kernel
theorem d3_6 : decode prog_133_method_10_code 6 = .ok (.iand, 1) := by decide +kernel
theorem d3_7 : decode prog_133_method_10_code 7 = .ok (.bipush 24, 2) := by decide +kernel
theorem d3_9 : decode prog_133_method_10_code 9 = .ok (.ishl, 1) := by decide +kernel
theorem d3_10 : decode prog_133_method_10_code 10 = .ok (.aload_n 0, 1) := by decide +kernel
theorem d3_11 : decode prog_133_method_10_code 11 = .ok (.iload_n 1, 1) := by decide +kernel
theorem d3_12 : decode prog_133_method_10_code 12 = .ok (.iconst 1, 1) := by decide +kernel
theorem d3_13 : decode prog_133_method_10_code 13 = .ok (.iadd, 1) := by decide +kernel
theorem d3_14 : decode prog_133_method_10_code 14 = .ok (.baload, 1) := by decide +kernel
theorem d3_15 : decode prog_133_method_10_code 15 = .ok (.sipush 255, 3) := by decide +kernel
theorem d3_18 : decode prog_133_method_10_code 18 = .ok (.iand, 1) := by decide +kernel
theorem d3_19 : decode prog_133_method_10_code 19 = .ok (.bipush 16, 2) := by decide +kernel
theorem d3_21 : decode prog_133_method_10_code 21 = .ok (.ishl, 1) := by decide +kernel
theorem d3_22 : decode prog_133_method_10_code 22 = .ok (.ior, 1) := by decide +kernel
theorem d3_23 : decode prog_133_method_10_code 23 = .ok (.aload_n 0, 1) := by decide +kernel
theorem d3_24 : decode prog_133_method_10_code 24 = .ok (.iload_n 1, 1) := by decide +kernel
theorem d3_25 : decode prog_133_method_10_code 25 = .ok (.iconst 2, 1) := by decide +kernel
theorem d3_26 : decode prog_133_method_10_code 26 = .ok (.iadd, 1) := by decide +kernel
theorem d3_27 : decode prog_133_method_10_code 27 = .ok (.baload, 1) := by decide +kernel
theorem d3_28 : decode prog_133_method_10_code 28 = .ok (.sipush 255, 3) := by decide +kernel
theorem d3_31 : decode prog_133_method_10_code 31 = .ok (.iand, 1) := by decide +kernel
theorem d3_32 : decode prog_133_method_10_code 32 = .ok (.bipush 8, 2) := by decide +kernel
theorem d3_34 : decode prog_133_method_10_code 34 = .ok (.ishl, 1) := by decide +kernel
theorem d3_35 : decode prog_133_method_10_code 35 = .ok (.ior, 1) := by decide +kernel
theorem d3_36 : decode prog_133_method_10_code 36 = .ok (.aload_n 0, 1) := by decide +kernel
theorem d3_37 : decode prog_133_method_10_code 37 = .ok (.iload_n 1, 1) := by decide +kernel
theorem d3_38 : decode prog_133_method_10_code 38 = .ok (.iconst 3, 1) := by decide +kernel
theorem d3_39 : decode prog_133_method_10_code 39 = .ok (.iadd, 1) := by decide +kernel
theorem d3_40 : decode prog_133_method_10_code 40 = .ok (.baload, 1) := by decide +kernel
theorem d3_41 : decode prog_133_method_10_code 41 = .ok (.sipush 255, 3) := by decide +kernel
theorem d3_44 : decode prog_133_method_10_code 44 = .ok (.iand, 1) := by decide +kernel
theorem d3_45 : decode prog_133_method_10_code 45 = .ok (.ior, 1) := by decide +kernel
theorem d3_46 : decode prog_133_method_10_code 46 = .ok (.ireturn, 1) := by decide +kernel
def own_Q3 (Z : State) (o0 : Addr) (p1 : Int32) (i : Nat) (f : Nat → Value) (h0 : Heap) (n0 : Nat) (v : Option Value) (h : Heap) (L : List Loc) : Prop := v = some (.int (own_wd (own_iv (f i)) (own_iv (f (i + 1))) (own_iv (f (i + 2))) (own_iv (f (i + 3))))) ∧ Fr n0 L ∧ h = h0
set_option maxRecDepth 65536 in
set_option maxHeartbeats 40000000 in
theorem rm3 (l : Launch) (Z : State) (a0 : Array Value) (hw : ∀ d ∈ tables_1, d.before a0 Z = true) (ws : List Jvm.Cond) (o0 : Addr) (p1 : Int32) (i : Nat) (f : Nat → Value) (h0 : Heap) (n0 : Nat) (Z0 : n0 ≤ h0.size) (PA : own_Av Z h0 o0 .byte 8 f) (Pi : p1.toInt = (i : Int)) (Pl : i ≤ 4) :
    MetFree l (⟨"linewarden/service/Sha256", "word", "([BI)I"⟩ : MethodName) (head1 (Jvm.Cond.code (⟨"linewarden/service/Sha256", "word", "([BI)I"⟩ : MethodName) prog_133_method_10_code 2 (some .int) :: ws) ({ frames := 0, cells := 0, slots := 0, locals := 0 } : Room)) (fun a U => a = #[(.ref o0), (.int p1)] ∧ Z.Warmed39 U.vm ∧ U.heap = h0) (fun _ _ _ _ _ => True) (fun _ U o U' => ∃ v L, o = .returned v ∧ own_Q3 Z o0 p1 i f h0 n0 v U'.heap L ∧ FrameEnd U o U' L ({ frames := 0, cells := 0, slots := 0, locals := 0 } : Room).cells ({ frames := 0, cells := 0, slots := 0, locals := 0 } : Room).slots) := by
  refine own_metfree (Q := own_Q3 Z o0 p1 i f h0 n0) (plainFor_of_name own_pn3) ?_
  intro p e s m below meth c s₁ X0 hx hby hml hret hown hnm hZ e0 G go fin
  have N0 := Fr.nil n0
  refine go _ (s₁.setTop (mkF m 0 #[.val (.ref o0), .val (.int p1)] [])) (fun t k => castTop (own_ef3 m o0 p1) k) ?_
  refine go _ (s₁.setTop (mkF m 1 #[.val (.ref o0), .val (.int p1)] [(.ref o0)])) (fun t k => XS.aloadN X0.here hx rfl (hb hby d3_0) rfl rfl k) ?_
  refine go _ (s₁.setTop (mkF m 2 #[.val (.ref o0), .val (.int p1)] [(.int p1), (.ref o0)])) (fun t k => XS.iloadN X0.here hx rfl (hb hby d3_1) rfl k) ?_
  refine go _ (s₁.setTop (mkF m 3 #[.val (.ref o0), .val (.int p1)] [(.int (own_iv (f i)))])) (fun t k => own_ldB X0 hx hZ e0 PA (i := i) Pi (by omega) (g := (mkF m 2 #[.val (.ref o0), .val (.int p1)] [(.int p1), (.ref o0)])) rfl rfl (hb hby d3_2) _ k) ?_
  refine go _ (s₁.setTop (mkF m 6 #[.val (.ref o0), .val (.int p1)] [(.int (255 : Int32)), (.int (own_iv (f i)))])) (fun t k => XS.sipush X0.here hx rfl (hb hby d3_3) k) ?_
  refine go _ (s₁.setTop (mkF m 7 #[.val (.ref o0), .val (.int p1)] [(.int ((own_iv (f i)) &&& (255 : Int32)))])) (fun t k => XS.iand X0.here hx rfl (hb hby d3_6) rfl k) ?_
  refine go _ (s₁.setTop (mkF m 9 #[.val (.ref o0), .val (.int p1)] [(.int (24 : Int32)), (.int ((own_iv (f i)) &&& (255 : Int32)))])) (fun t k => XS.bipush X0.here hx rfl (hb hby d3_7) k) ?_
  refine go _ (s₁.setTop (mkF m 10 #[.val (.ref o0), .val (.int p1)] [(.int (((own_iv (f i)) &&& (255 : Int32)) <<< ((24 : Int32) &&& 31)))])) (fun t k => XS.ishl X0.here hx rfl (hb hby d3_9) rfl k) ?_
  refine go _ (s₁.setTop (mkF m 11 #[.val (.ref o0), .val (.int p1)] [(.ref o0), (.int (((own_iv (f i)) &&& (255 : Int32)) <<< ((24 : Int32) &&& 31)))])) (fun t k => XS.aloadN X0.here hx rfl (hb hby d3_10) rfl rfl k) ?_
  refine go _ (s₁.setTop (mkF m 12 #[.val (.ref o0), .val (.int p1)] [(.int p1), (.ref o0), (.int (((own_iv (f i)) &&& (255 : Int32)) <<< ((24 : Int32) &&& 31)))])) (fun t k => XS.iloadN X0.here hx rfl (hb hby d3_11) rfl k) ?_
  refine go _ (s₁.setTop (mkF m 13 #[.val (.ref o0), .val (.int p1)] [(.int (1 : Int32)), (.int p1), (.ref o0), (.int (((own_iv (f i)) &&& (255 : Int32)) <<< ((24 : Int32) &&& 31)))])) (fun t k => XS.iconst X0.here hx rfl (hb hby d3_12) k) ?_
  refine go _ (s₁.setTop (mkF m 14 #[.val (.ref o0), .val (.int p1)] [(.int (p1 + (1 : Int32))), (.ref o0), (.int (((own_iv (f i)) &&& (255 : Int32)) <<< ((24 : Int32) &&& 31)))])) (fun t k => XS.iadd X0.here hx rfl (hb hby d3_13) rfl k) ?_
  refine go _ (s₁.setTop (mkF m 15 #[.val (.ref o0), .val (.int p1)] [(.int (own_iv (f (i + 1)))), (.int (((own_iv (f i)) &&& (255 : Int32)) <<< ((24 : Int32) &&& 31)))])) (fun t k => own_ldB X0 hx hZ e0 PA (i := (i + 1)) (own_add Pi (by decide) (by omega)) (by omega) (g := (mkF m 14 #[.val (.ref o0), .val (.int p1)] [(.int (p1 + (1 : Int32))), (.ref o0), (.int (((own_iv (f i)) &&& (255 : Int32)) <<< ((24 : Int32) &&& 31)))])) rfl rfl (hb hby d3_14) _ k) ?_
  refine go _ (s₁.setTop (mkF m 18 #[.val (.ref o0), .val (.int p1)] [(.int (255 : Int32)), (.int (own_iv (f (i + 1)))), (.int (((own_iv (f i)) &&& (255 : Int32)) <<< ((24 : Int32) &&& 31)))])) (fun t k => XS.sipush X0.here hx rfl (hb hby d3_15) k) ?_
  refine go _ (s₁.setTop (mkF m 19 #[.val (.ref o0), .val (.int p1)] [(.int ((own_iv (f (i + 1))) &&& (255 : Int32))), (.int (((own_iv (f i)) &&& (255 : Int32)) <<< ((24 : Int32) &&& 31)))])) (fun t k => XS.iand X0.here hx rfl (hb hby d3_18) rfl k) ?_
  refine go _ (s₁.setTop (mkF m 21 #[.val (.ref o0), .val (.int p1)] [(.int (16 : Int32)), (.int ((own_iv (f (i + 1))) &&& (255 : Int32))), (.int (((own_iv (f i)) &&& (255 : Int32)) <<< ((24 : Int32) &&& 31)))])) (fun t k => XS.bipush X0.here hx rfl (hb hby d3_19) k) ?_
  refine go _ (s₁.setTop (mkF m 22 #[.val (.ref o0), .val (.int p1)] [(.int (((own_iv (f (i + 1))) &&& (255 : Int32)) <<< ((16 : Int32) &&& 31))), (.int (((own_iv (f i)) &&& (255 : Int32)) <<< ((24 : Int32) &&& 31)))])) (fun t k => XS.ishl X0.here hx rfl (hb hby d3_21) rfl k) ?_
  refine go _ (s₁.setTop (mkF m 23 #[.val (.ref o0), .val (.int p1)] [(.int ((((own_iv (f i)) &&& (255 : Int32)) <<< ((24 : Int32) &&& 31)) ||| (((own_iv (f (i + 1))) &&& (255 : Int32)) <<< ((16 : Int32) &&& 31))))])) (fun t k => XS.ior X0.here hx rfl (hb hby d3_22) rfl k) ?_
  refine go _ (s₁.setTop (mkF m 24 #[.val (.ref o0), .val (.int p1)] [(.ref o0), (.int ((((own_iv (f i)) &&& (255 : Int32)) <<< ((24 : Int32) &&& 31)) ||| (((own_iv (f (i + 1))) &&& (255 : Int32)) <<< ((16 : Int32) &&& 31))))])) (fun t k => XS.aloadN X0.here hx rfl (hb hby d3_23) rfl rfl k) ?_
  refine go _ (s₁.setTop (mkF m 25 #[.val (.ref o0), .val (.int p1)] [(.int p1), (.ref o0), (.int ((((own_iv (f i)) &&& (255 : Int32)) <<< ((24 : Int32) &&& 31)) ||| (((own_iv (f (i + 1))) &&& (255 : Int32)) <<< ((16 : Int32) &&& 31))))])) (fun t k => XS.iloadN X0.here hx rfl (hb hby d3_24) rfl k) ?_
  refine go _ (s₁.setTop (mkF m 26 #[.val (.ref o0), .val (.int p1)] [(.int (2 : Int32)), (.int p1), (.ref o0), (.int ((((own_iv (f i)) &&& (255 : Int32)) <<< ((24 : Int32) &&& 31)) ||| (((own_iv (f (i + 1))) &&& (255 : Int32)) <<< ((16 : Int32) &&& 31))))])) (fun t k => XS.iconst X0.here hx rfl (hb hby d3_25) k) ?_
  refine go _ (s₁.setTop (mkF m 27 #[.val (.ref o0), .val (.int p1)] [(.int (p1 + (2 : Int32))), (.ref o0), (.int ((((own_iv (f i)) &&& (255 : Int32)) <<< ((24 : Int32) &&& 31)) ||| (((own_iv (f (i + 1))) &&& (255 : Int32)) <<< ((16 : Int32) &&& 31))))])) (fun t k => XS.iadd X0.here hx rfl (hb hby d3_26) rfl k) ?_
  refine go _ (s₁.setTop (mkF m 28 #[.val (.ref o0), .val (.int p1)] [(.int (own_iv (f (i + 2)))), (.int ((((own_iv (f i)) &&& (255 : Int32)) <<< ((24 : Int32) &&& 31)) ||| (((own_iv (f (i + 1))) &&& (255 : Int32)) <<< ((16 : Int32) &&& 31))))])) (fun t k => own_ldB X0 hx hZ e0 PA (i := (i + 2)) (own_add Pi (by decide) (by omega)) (by omega) (g := (mkF m 27 #[.val (.ref o0), .val (.int p1)] [(.int (p1 + (2 : Int32))), (.ref o0), (.int ((((own_iv (f i)) &&& (255 : Int32)) <<< ((24 : Int32) &&& 31)) ||| (((own_iv (f (i + 1))) &&& (255 : Int32)) <<< ((16 : Int32) &&& 31))))])) rfl rfl (hb hby d3_27) _ k) ?_
  refine go _ (s₁.setTop (mkF m 31 #[.val (.ref o0), .val (.int p1)] [(.int (255 : Int32)), (.int (own_iv (f (i + 2)))), (.int ((((own_iv (f i)) &&& (255 : Int32)) <<< ((24 : Int32) &&& 31)) ||| (((own_iv (f (i + 1))) &&& (255 : Int32)) <<< ((16 : Int32) &&& 31))))])) (fun t k => XS.sipush X0.here hx rfl (hb hby d3_28) k) ?_
  refine go _ (s₁.setTop (mkF m 32 #[.val (.ref o0), .val (.int p1)] [(.int ((own_iv (f (i + 2))) &&& (255 : Int32))), (.int ((((own_iv (f i)) &&& (255 : Int32)) <<< ((24 : Int32) &&& 31)) ||| (((own_iv (f (i + 1))) &&& (255 : Int32)) <<< ((16 : Int32) &&& 31))))])) (fun t k => XS.iand X0.here hx rfl (hb hby d3_31) rfl k) ?_
  refine go _ (s₁.setTop (mkF m 34 #[.val (.ref o0), .val (.int p1)] [(.int (8 : Int32)), (.int ((own_iv (f (i + 2))) &&& (255 : Int32))), (.int ((((own_iv (f i)) &&& (255 : Int32)) <<< ((24 : Int32) &&& 31)) ||| (((own_iv (f (i + 1))) &&& (255 : Int32)) <<< ((16 : Int32) &&& 31))))])) (fun t k => XS.bipush X0.here hx rfl (hb hby d3_32) k) ?_
  refine go _ (s₁.setTop (mkF m 35 #[.val (.ref o0), .val (.int p1)] [(.int (((own_iv (f (i + 2))) &&& (255 : Int32)) <<< ((8 : Int32) &&& 31))), (.int ((((own_iv (f i)) &&& (255 : Int32)) <<< ((24 : Int32) &&& 31)) ||| (((own_iv (f (i + 1))) &&& (255 : Int32)) <<< ((16 : Int32) &&& 31))))])) (fun t k => XS.ishl X0.here hx rfl (hb hby d3_34) rfl k) ?_
  refine go _ (s₁.setTop (mkF m 36 #[.val (.ref o0), .val (.int p1)] [(.int (((((own_iv (f i)) &&& (255 : Int32)) <<< ((24 : Int32) &&& 31)) ||| (((own_iv (f (i + 1))) &&& (255 : Int32)) <<< ((16 : Int32) &&& 31))) ||| (((own_iv (f (i + 2))) &&& (255 : Int32)) <<< ((8 : Int32) &&& 31))))])) (fun t k => XS.ior X0.here hx rfl (hb hby d3_35) rfl k) ?_
  refine go _ (s₁.setTop (mkF m 37 #[.val (.ref o0), .val (.int p1)] [(.ref o0), (.int (((((own_iv (f i)) &&& (255 : Int32)) <<< ((24 : Int32) &&& 31)) ||| (((own_iv (f (i + 1))) &&& (255 : Int32)) <<< ((16 : Int32) &&& 31))) ||| (((own_iv (f (i + 2))) &&& (255 : Int32)) <<< ((8 : Int32) &&& 31))))])) (fun t k => XS.aloadN X0.here hx rfl (hb hby d3_36) rfl rfl k) ?_
  refine go _ (s₁.setTop (mkF m 38 #[.val (.ref o0), .val (.int p1)] [(.int p1), (.ref o0), (.int (((((own_iv (f i)) &&& (255 : Int32)) <<< ((24 : Int32) &&& 31)) ||| (((own_iv (f (i + 1))) &&& (255 : Int32)) <<< ((16 : Int32) &&& 31))) ||| (((own_iv (f (i + 2))) &&& (255 : Int32)) <<< ((8 : Int32) &&& 31))))])) (fun t k => XS.iloadN X0.here hx rfl (hb hby d3_37) rfl k) ?_
  refine go _ (s₁.setTop (mkF m 39 #[.val (.ref o0), .val (.int p1)] [(.int (3 : Int32)), (.int p1), (.ref o0), (.int (((((own_iv (f i)) &&& (255 : Int32)) <<< ((24 : Int32) &&& 31)) ||| (((own_iv (f (i + 1))) &&& (255 : Int32)) <<< ((16 : Int32) &&& 31))) ||| (((own_iv (f (i + 2))) &&& (255 : Int32)) <<< ((8 : Int32) &&& 31))))])) (fun t k => XS.iconst X0.here hx rfl (hb hby d3_38) k) ?_
  refine go _ (s₁.setTop (mkF m 40 #[.val (.ref o0), .val (.int p1)] [(.int (p1 + (3 : Int32))), (.ref o0), (.int (((((own_iv (f i)) &&& (255 : Int32)) <<< ((24 : Int32) &&& 31)) ||| (((own_iv (f (i + 1))) &&& (255 : Int32)) <<< ((16 : Int32) &&& 31))) ||| (((own_iv (f (i + 2))) &&& (255 : Int32)) <<< ((8 : Int32) &&& 31))))])) (fun t k => XS.iadd X0.here hx rfl (hb hby d3_39) rfl k) ?_
  refine go _ (s₁.setTop (mkF m 41 #[.val (.ref o0), .val (.int p1)] [(.int (own_iv (f (i + 3)))), (.int (((((own_iv (f i)) &&& (255 : Int32)) <<< ((24 : Int32) &&& 31)) ||| (((own_iv (f (i + 1))) &&& (255 : Int32)) <<< ((16 : Int32) &&& 31))) ||| (((own_iv (f (i + 2))) &&& (255 : Int32)) <<< ((8 : Int32) &&& 31))))])) (fun t k => own_ldB X0 hx hZ e0 PA (i := (i + 3)) (own_add Pi (by decide) (by omega)) (by omega) (g := (mkF m 40 #[.val (.ref o0), .val (.int p1)] [(.int (p1 + (3 : Int32))), (.ref o0), (.int (((((own_iv (f i)) &&& (255 : Int32)) <<< ((24 : Int32) &&& 31)) ||| (((own_iv (f (i + 1))) &&& (255 : Int32)) <<< ((16 : Int32) &&& 31))) ||| (((own_iv (f (i + 2))) &&& (255 : Int32)) <<< ((8 : Int32) &&& 31))))])) rfl rfl (hb hby d3_40) _ k) ?_
  refine go _ (s₁.setTop (mkF m 44 #[.val (.ref o0), .val (.int p1)] [(.int (255 : Int32)), (.int (own_iv (f (i + 3)))), (.int (((((own_iv (f i)) &&& (255 : Int32)) <<< ((24 : Int32) &&& 31)) ||| (((own_iv (f (i + 1))) &&& (255 : Int32)) <<< ((16 : Int32) &&& 31))) ||| (((own_iv (f (i + 2))) &&& (255 : Int32)) <<< ((8 : Int32) &&& 31))))])) (fun t k => XS.sipush X0.here hx rfl (hb hby d3_41) k) ?_
  refine go _ (s₁.setTop (mkF m 45 #[.val (.ref o0), .val (.int p1)] [(.int ((own_iv (f (i + 3))) &&& (255 : Int32))), (.int (((((own_iv (f i)) &&& (255 : Int32)) <<< ((24 : Int32) &&& 31)) ||| (((own_iv (f (i + 1))) &&& (255 : Int32)) <<< ((16 : Int32) &&& 31))) ||| (((own_iv (f (i + 2))) &&& (255 : Int32)) <<< ((8 : Int32) &&& 31))))])) (fun t k => XS.iand X0.here hx rfl (hb hby d3_44) rfl k) ?_
  refine go _ (s₁.setTop (mkF m 46 #[.val (.ref o0), .val (.int p1)] [(.int ((((((own_iv (f i)) &&& (255 : Int32)) <<< ((24 : Int32) &&& 31)) ||| (((own_iv (f (i + 1))) &&& (255 : Int32)) <<< ((16 : Int32) &&& 31))) ||| (((own_iv (f (i + 2))) &&& (255 : Int32)) <<< ((8 : Int32) &&& 31))) ||| ((own_iv (f (i + 3))) &&& (255 : Int32))))])) (fun t k => XS.ior X0.here hx rfl (hb hby d3_45) rfl k) ?_
  refine fin (some (.int ((((((own_iv (f i)) &&& (255 : Int32)) <<< ((24 : Int32) &&& 31)) ||| (((own_iv (f (i + 1))) &&& (255 : Int32)) <<< ((16 : Int32) &&& 31))) ||| (((own_iv (f (i + 2))) &&& (255 : Int32)) <<< ((8 : Int32) &&& 31))) ||| ((own_iv (f (i + 3))) &&& (255 : Int32))))) (mkF m 46 #[.val (.ref o0), .val (.int p1)] [(.int ((((((own_iv (f i)) &&& (255 : Int32)) <<< ((24 : Int32) &&& 31)) ||| (((own_iv (f (i + 1))) &&& (255 : Int32)) <<< ((16 : Int32) &&& 31))) ||| (((own_iv (f (i + 2))) &&& (255 : Int32)) <<< ((8 : Int32) &&& 31))) ||| ((own_iv (f (i + 3))) &&& (255 : Int32))))]) X0 (fun h => by cases h) (fun fs hr => retOut X0 hx (t := .int) hret rfl (Or.inl ⟨rfl, by simp, _, rfl⟩) (hb hby d3_46) hr) ?_ (by decide) (by decide)
  try rw [e0]
  exact ⟨rfl, N0, rfl⟩
theorem own_ef1 (m : MethodId) (o0 : Addr) (p1 : Int32) (p2 : Int32) : entryFrame m #[(.ref o0), (.int p1), (.int p2)] 3 = mkF m 0 #[.val (.ref o0), .val (.int p1), .val (.int p2)] [] := by first | (simp [entryFrame, mkF, argsToLocals, Value.category]; done) | rfl
theorem own_pn1 : plainName "linewarden/service/Sha256" = true := by first | (simp [plainName, overriddenIn]; done) | decide +kernel
theorem d1_0 : decode prog_133_method_11_code 0 = .ok (.aload_n 0, 1) := by decide +kernel
theorem d1_1 : decode prog_133_method_11_code 1 = .ok (.iload_n 1, 1) := by decide +kernel
theorem d1_2 : decode prog_133_method_11_code 2 = .ok (.iload_n 2, 1) := by decide +kernel
theorem d1_3 : decode prog_133_method_11_code 3 = .ok (.bipush 24, 2) := by decide +kernel
theorem d1_5 : decode prog_133_method_11_code 5 = .ok (.iushr, 1) := by decide +kernel
theorem d1_6 : decode prog_133_method_11_code 6 = .ok (.i2b, 1) := by decide +kernel
theorem d1_7 : decode prog_133_method_11_code 7 = .ok (.bastore, 1) := by decide +kernel
theorem d1_8 : decode prog_133_method_11_code 8 = .ok (.aload_n 0, 1) := by decide +kernel
theorem d1_9 : decode prog_133_method_11_code 9 = .ok (.iload_n 1, 1) := by decide +kernel
theorem d1_10 : decode prog_133_method_11_code 10 = .ok (.iconst 1, 1) := by decide +kernel
theorem d1_11 : decode prog_133_method_11_code 11 = .ok (.iadd, 1) := by decide +kernel
theorem d1_12 : decode prog_133_method_11_code 12 = .ok (.iload_n 2, 1) := by decide +kernel
theorem d1_13 : decode prog_133_method_11_code 13 = .ok (.bipush 16, 2) := by decide +kernel
theorem d1_15 : decode prog_133_method_11_code 15 = .ok (.iushr, 1) := by decide +kernel
theorem d1_16 : decode prog_133_method_11_code 16 = .ok (.i2b, 1) := by decide +kernel
theorem d1_17 : decode prog_133_method_11_code 17 = .ok (.bastore, 1) := by decide +kernel
theorem d1_18 : decode prog_133_method_11_code 18 = .ok (.aload_n 0, 1) := by decide +kernel
theorem d1_19 : decode prog_133_method_11_code 19 = .ok (.iload_n 1, 1) := by decide +kernel
theorem d1_20 : decode prog_133_method_11_code 20 = .ok (.iconst 2, 1) := by decide +kernel
theorem d1_21 : decode prog_133_method_11_code 21 = .ok (.iadd, 1) := by decide +kernel
theorem d1_22 : decode prog_133_method_11_code 22 = .ok (.iload_n 2, 1) := by decide +kernel
theorem d1_23 : decode prog_133_method_11_code 23 = .ok (.bipush 8, 2) := by decide +kernel
theorem d1_25 : decode prog_133_method_11_code 25 = .ok (.iushr, 1) := by decide +kernel
theorem d1_26 : decode prog_133_method_11_code 26 = .ok (.i2b, 1) := by decide +kernel
theorem d1_27 : decode prog_133_method_11_code 27 = .ok (.bastore, 1) := by decide +kernel
theorem d1_28 : decode prog_133_method_11_code 28 = .ok (.aload_n 0, 1) := by decide +kernel
theorem d1_29 : decode prog_133_method_11_code 29 = .ok (.iload_n 1, 1) := by decide +kernel
theorem d1_30 : decode prog_133_method_11_code 30 = .ok (.iconst 3, 1) := by decide +kernel
theorem d1_31 : decode prog_133_method_11_code 31 = .ok (.iadd, 1) := by decide +kernel
theorem d1_32 : decode prog_133_method_11_code 32 = .ok (.iload_n 2, 1) := by decide +kernel
theorem d1_33 : decode prog_133_method_11_code 33 = .ok (.i2b, 1) := by decide +kernel
theorem d1_34 : decode prog_133_method_11_code 34 = .ok (.bastore, 1) := by decide +kernel
theorem d1_35 : decode prog_133_method_11_code 35 = .ok (.return_, 1) := by decide +kernel
def own_Q1 (Z : State) (o0 : Addr) (p1 : Int32) (p2 : Int32) (i : Nat) (f : Nat → Value) (h0 : Heap) (n0 : Nat) (v : Option Value) (h : Heap) (L : List Loc) : Prop := v = none ∧ Fr n0 L ∧ Keep h0 h [o0] ∧ own_Av Z h o0 .byte 8 (own_pw f i p2)
set_option maxRecDepth 65536 in
set_option maxHeartbeats 40000000 in
theorem rm1 (l : Launch) (Z : State) (a0 : Array Value) (hw : ∀ d ∈ tables_1, d.before a0 Z = true) (ws : List Jvm.Cond) (o0 : Addr) (p1 : Int32) (p2 : Int32) (i : Nat) (f : Nat → Value) (h0 : Heap) (n0 : Nat) (Z0 : n0 ≤ h0.size) (PA : own_Av Z h0 o0 .byte 8 f) (Pi : p1.toInt = (i : Int)) (Pl : i ≤ 4) (Pg : n0 ≤ o0) :
    MetFree l (⟨"linewarden/service/Sha256", "putWord", "([BII)V"⟩ : MethodName) (head1 (Jvm.Cond.code (⟨"linewarden/service/Sha256", "putWord", "([BII)V"⟩ : MethodName) prog_133_method_11_code 3 none :: ws) ({ frames := 0, cells := 0, slots := 0, locals := 0 } : Room)) (fun a U => a = #[(.ref o0), (.int p1), (.int p2)] ∧ Z.Warmed39 U.vm ∧ U.heap = h0) (fun _ _ _ _ _ => True) (fun _ U o U' => ∃ v L, o = .returned v ∧ own_Q1 Z o0 p1 p2 i f h0 n0 v U'.heap L ∧ FrameEnd U o U' L ({ frames := 0, cells := 0, slots := 0, locals := 0 } : Room).cells ({ frames := 0, cells := 0, slots := 0, locals := 0 } : Room).slots) := by
  refine own_metfree (Q := own_Q1 Z o0 p1 p2 i f h0 n0) (plainFor_of_name own_pn1) ?_
  intro p e s m below meth c s₁ X0 hx hby hml hret hown hnm hZ e0 G go fin
  have N0 := Fr.nil n0
  refine go _ (s₁.setTop (mkF m 0 #[.val (.ref o0), .val (.int p1), .val (.int p2)] [])) (fun t k => castTop (own_ef1 m o0 p1 p2) k) ?_
  refine go _ (s₁.setTop (mkF m 1 #[.val (.ref o0), .val (.int p1), .val (.int p2)] [(.ref o0)])) (fun t k => XS.aloadN X0.here hx rfl (hb hby d1_0) rfl rfl k) ?_
  refine go _ (s₁.setTop (mkF m 2 #[.val (.ref o0), .val (.int p1), .val (.int p2)] [(.int p1), (.ref o0)])) (fun t k => XS.iloadN X0.here hx rfl (hb hby d1_1) rfl k) ?_
  refine go _ (s₁.setTop (mkF m 3 #[.val (.ref o0), .val (.int p1), .val (.int p2)] [(.int p2), (.int p1), (.ref o0)])) (fun t k => XS.iloadN X0.here hx rfl (hb hby d1_2) rfl k) ?_
  refine go _ (s₁.setTop (mkF m 5 #[.val (.ref o0), .val (.int p1), .val (.int p2)] [(.int (24 : Int32)), (.int p2), (.int p1), (.ref o0)])) (fun t k => XS.bipush X0.here hx rfl (hb hby d1_3) k) ?_
  refine go _ (s₁.setTop (mkF m 6 #[.val (.ref o0), .val (.int p1), .val (.int p2)] [(.int ((p2.toUInt32 >>> ((24 : Int32) &&& 31).toUInt32).toInt32)), (.int p1), (.ref o0)])) (fun t k => XS.iushr X0.here hx rfl (hb hby d1_5) rfl k) ?_
  refine go _ (s₁.setTop (mkF m 7 #[.val (.ref o0), .val (.int p1), .val (.int p2)] [(.int (((p2.toUInt32 >>> ((24 : Int32) &&& 31).toUInt32).toInt32).toInt8.toInt32)), (.int p1), (.ref o0)])) (fun t k => XS.i2b X0.here hx rfl (hb hby d1_6) rfl k) ?_
  obtain ⟨T1, h1, X1, e1, W1, Av1, st1⟩ := own_stB X0 hx hZ e0 PA (i := i) Pi (by omega) (g := (mkF m 7 #[.val (.ref o0), .val (.int p1), .val (.int p2)] [(.int (((p2.toUInt32 >>> ((24 : Int32) &&& 31).toUInt32).toInt32).toInt8.toInt32)), (.int p1), (.ref o0)])) rfl rfl (hb hby d1_7)
  rw [own_nar8] at Av1
  have N1 := Fr.snoc X1 N0 Pg
  refine go _ (T1.setTop (mkF m 8 #[.val (.ref o0), .val (.int p1), .val (.int p2)] [])) st1 ?_
  refine go _ (T1.setTop (mkF m 9 #[.val (.ref o0), .val (.int p1), .val (.int p2)] [(.ref o0)])) (fun t k => XS.aloadN X1.here hx rfl (hb hby d1_8) rfl rfl k) ?_
  refine go _ (T1.setTop (mkF m 10 #[.val (.ref o0), .val (.int p1), .val (.int p2)] [(.int p1), (.ref o0)])) (fun t k => XS.iloadN X1.here hx rfl (hb hby d1_9) rfl k) ?_
  refine go _ (T1.setTop (mkF m 11 #[.val (.ref o0), .val (.int p1), .val (.int p2)] [(.int (1 : Int32)), (.int p1), (.ref o0)])) (fun t k => XS.iconst X1.here hx rfl (hb hby d1_10) k) ?_
  refine go _ (T1.setTop (mkF m 12 #[.val (.ref o0), .val (.int p1), .val (.int p2)] [(.int (p1 + (1 : Int32))), (.ref o0)])) (fun t k => XS.iadd X1.here hx rfl (hb hby d1_11) rfl k) ?_
  refine go _ (T1.setTop (mkF m 13 #[.val (.ref o0), .val (.int p1), .val (.int p2)] [(.int p2), (.int (p1 + (1 : Int32))), (.ref o0)])) (fun t k => XS.iloadN X1.here hx rfl (hb hby d1_12) rfl k) ?_
  refine go _ (T1.setTop (mkF m 15 #[.val (.ref o0), .val (.int p1), .val (.int p2)] [(.int (16 : Int32)), (.int p2), (.int (p1 + (1 : Int32))), (.ref o0)])) (fun t k => XS.bipush X1.here hx rfl (hb hby d1_13) k) ?_
  refine go _ (T1.setTop (mkF m 16 #[.val (.ref o0), .val (.int p1), .val (.int p2)] [(.int ((p2.toUInt32 >>> ((16 : Int32) &&& 31).toUInt32).toInt32)), (.int (p1 + (1 : Int32))), (.ref o0)])) (fun t k => XS.iushr X1.here hx rfl (hb hby d1_15) rfl k) ?_
  refine go _ (T1.setTop (mkF m 17 #[.val (.ref o0), .val (.int p1), .val (.int p2)] [(.int (((p2.toUInt32 >>> ((16 : Int32) &&& 31).toUInt32).toInt32).toInt8.toInt32)), (.int (p1 + (1 : Int32))), (.ref o0)])) (fun t k => XS.i2b X1.here hx rfl (hb hby d1_16) rfl k) ?_
  obtain ⟨T2, h2, X2, e2, W2, Av2, st2⟩ := own_stB X1 hx hZ e1 Av1 (i := (i + 1)) (own_add Pi (by decide) (by omega)) (by omega) (g := (mkF m 17 #[.val (.ref o0), .val (.int p1), .val (.int p2)] [(.int (((p2.toUInt32 >>> ((16 : Int32) &&& 31).toUInt32).toInt32).toInt8.toInt32)), (.int (p1 + (1 : Int32))), (.ref o0)])) rfl rfl (hb hby d1_17)
  rw [own_nar8] at Av2
  have N2 := Fr.snoc X2 N1 Pg
  refine go _ (T2.setTop (mkF m 18 #[.val (.ref o0), .val (.int p1), .val (.int p2)] [])) st2 ?_
  refine go _ (T2.setTop (mkF m 19 #[.val (.ref o0), .val (.int p1), .val (.int p2)] [(.ref o0)])) (fun t k => XS.aloadN X2.here hx rfl (hb hby d1_18) rfl rfl k) ?_
  refine go _ (T2.setTop (mkF m 20 #[.val (.ref o0), .val (.int p1), .val (.int p2)] [(.int p1), (.ref o0)])) (fun t k => XS.iloadN X2.here hx rfl (hb hby d1_19) rfl k) ?_
  refine go _ (T2.setTop (mkF m 21 #[.val (.ref o0), .val (.int p1), .val (.int p2)] [(.int (2 : Int32)), (.int p1), (.ref o0)])) (fun t k => XS.iconst X2.here hx rfl (hb hby d1_20) k) ?_
  refine go _ (T2.setTop (mkF m 22 #[.val (.ref o0), .val (.int p1), .val (.int p2)] [(.int (p1 + (2 : Int32))), (.ref o0)])) (fun t k => XS.iadd X2.here hx rfl (hb hby d1_21) rfl k) ?_
  refine go _ (T2.setTop (mkF m 23 #[.val (.ref o0), .val (.int p1), .val (.int p2)] [(.int p2), (.int (p1 + (2 : Int32))), (.ref o0)])) (fun t k => XS.iloadN X2.here hx rfl (hb hby d1_22) rfl k) ?_
  refine go _ (T2.setTop (mkF m 25 #[.val (.ref o0), .val (.int p1), .val (.int p2)] [(.int (8 : Int32)), (.int p2), (.int (p1 + (2 : Int32))), (.ref o0)])) (fun t k => XS.bipush X2.here hx rfl (hb hby d1_23) k) ?_
  refine go _ (T2.setTop (mkF m 26 #[.val (.ref o0), .val (.int p1), .val (.int p2)] [(.int ((p2.toUInt32 >>> ((8 : Int32) &&& 31).toUInt32).toInt32)), (.int (p1 + (2 : Int32))), (.ref o0)])) (fun t k => XS.iushr X2.here hx rfl (hb hby d1_25) rfl k) ?_
  refine go _ (T2.setTop (mkF m 27 #[.val (.ref o0), .val (.int p1), .val (.int p2)] [(.int (((p2.toUInt32 >>> ((8 : Int32) &&& 31).toUInt32).toInt32).toInt8.toInt32)), (.int (p1 + (2 : Int32))), (.ref o0)])) (fun t k => XS.i2b X2.here hx rfl (hb hby d1_26) rfl k) ?_
  obtain ⟨T3, h3, X3, e3, W3, Av3, st3⟩ := own_stB X2 hx hZ e2 Av2 (i := (i + 2)) (own_add Pi (by decide) (by omega)) (by omega) (g := (mkF m 27 #[.val (.ref o0), .val (.int p1), .val (.int p2)] [(.int (((p2.toUInt32 >>> ((8 : Int32) &&& 31).toUInt32).toInt32).toInt8.toInt32)), (.int (p1 + (2 : Int32))), (.ref o0)])) rfl rfl (hb hby d1_27)
  rw [own_nar8] at Av3
  have N3 := Fr.snoc X3 N2 Pg
  refine go _ (T3.setTop (mkF m 28 #[.val (.ref o0), .val (.int p1), .val (.int p2)] [])) st3 ?_
  refine go _ (T3.setTop (mkF m 29 #[.val (.ref o0), .val (.int p1), .val (.int p2)] [(.ref o0)])) (fun t k => XS.aloadN X3.here hx rfl (hb hby d1_28) rfl rfl k) ?_
  refine go _ (T3.setTop (mkF m 30 #[.val (.ref o0), .val (.int p1), .val (.int p2)] [(.int p1), (.ref o0)])) (fun t k => XS.iloadN X3.here hx rfl (hb hby d1_29) rfl k) ?_
  refine go _ (T3.setTop (mkF m 31 #[.val (.ref o0), .val (.int p1), .val (.int p2)] [(.int (3 : Int32)), (.int p1), (.ref o0)])) (fun t k => XS.iconst X3.here hx rfl (hb hby d1_30) k) ?_
  refine go _ (T3.setTop (mkF m 32 #[.val (.ref o0), .val (.int p1), .val (.int p2)] [(.int (p1 + (3 : Int32))), (.ref o0)])) (fun t k => XS.iadd X3.here hx rfl (hb hby d1_31) rfl k) ?_
  refine go _ (T3.setTop (mkF m 33 #[.val (.ref o0), .val (.int p1), .val (.int p2)] [(.int p2), (.int (p1 + (3 : Int32))), (.ref o0)])) (fun t k => XS.iloadN X3.here hx rfl (hb hby d1_32) rfl k) ?_
  refine go _ (T3.setTop (mkF m 34 #[.val (.ref o0), .val (.int p1), .val (.int p2)] [(.int (p2.toInt8.toInt32)), (.int (p1 + (3 : Int32))), (.ref o0)])) (fun t k => XS.i2b X3.here hx rfl (hb hby d1_33) rfl k) ?_
  obtain ⟨T4, h4, X4, e4, W4, Av4, st4⟩ := own_stB X3 hx hZ e3 Av3 (i := (i + 3)) (own_add Pi (by decide) (by omega)) (by omega) (g := (mkF m 34 #[.val (.ref o0), .val (.int p1), .val (.int p2)] [(.int (p2.toInt8.toInt32)), (.int (p1 + (3 : Int32))), (.ref o0)])) rfl rfl (hb hby d1_34)
  rw [own_nar8] at Av4
  have N4 := Fr.snoc X4 N3 Pg
  refine go _ (T4.setTop (mkF m 35 #[.val (.ref o0), .val (.int p1), .val (.int p2)] [])) st4 ?_
  refine fin (none) (mkF m 35 #[.val (.ref o0), .val (.int p1), .val (.int p2)] []) X4 (fun _ => rfl) (fun fs hr => X4.returnOut hx hret (hb hby d1_35) hr) ?_ (by decide) (by decide)
  try rw [e4]
  exact ⟨rfl, N4, (((((Keep.refl h0 [o0]).wr W1 (Or.inl (List.mem_of_getElem? (i := 0) rfl))).wr W2 (Or.inl (List.mem_of_getElem? (i := 0) rfl))).wr W3 (Or.inl (List.mem_of_getElem? (i := 0) rfl))).wr W4 (Or.inl (List.mem_of_getElem? (i := 0) rfl))), Av4⟩
theorem own_ef2 (m : MethodId) (o0 : Addr) (p1 : Int32) (p2 : Int32) (q3 : Int64) (q5 : Int64) : entryFrame m #[(.ref o0), (.int p1), (.int p2), (.long q3), (.long q5)] 10 = mkF m 0 #[.val (.ref o0), .val (.int p1), .val (.int p2), .val (.long q3), .second, .val (.long q5), .second, .unset, .unset, .unset] [] := by first | (simp [entryFrame, mkF, argsToLocals, Value.category]; done) | rfl
theorem own_pn2 : plainName "linewarden/service/Sha256PutWordPinLaw" = true := by first | (simp [plainName, overriddenIn]; done) | decide +kernel
theorem d2_0 : decode method_3_code 0 = .ok (.iload_n 1, 1) := by decide +kernel
theorem d2_1 : decode method_3_code 1 = .ok (.iload_n 2, 1) := by decide +kernel
theorem d2_2 : decode method_3_code 2 = .ok (.if_icmp .lt 10, 3) := by decide +kernel
theorem d2_12 : decode method_3_code 12 = .ok (.aload_n 0, 1) := by decide +kernel
theorem d2_13 : decode method_3_code 13 = .ok (.iload_n 1, 1) := by decide +kernel
theorem d2_14 : decode method_3_code 14 = .ok (.baload, 1) := by decide +kernel
theorem d2_15 : decode method_3_code 15 = .ok (.lload_n 3, 1) := by decide +kernel
theorem d2_16 : decode method_3_code 16 = .ok (.bipush 8, 2) := by decide +kernel
theorem d2_18 : decode method_3_code 18 = .ok (.iload_n 1, 1) := by decide +kernel
theorem d2_19 : decode method_3_code 19 = .ok (.imul, 1) := by decide +kernel
theorem d2_20 : decode method_3_code 20 = .ok (.lushr, 1) := by decide +kernel
theorem d2_21 : decode method_3_code 21 = .ok (.l2i, 1) := by decide +kernel
theorem d2_22 : decode method_3_code 22 = .ok (.i2b, 1) := by decide +kernel
theorem d2_23 : decode method_3_code 23 = .ok (.if_icmp .ne 7, 3) := by decide +kernel
theorem d2_26 : decode method_3_code 26 = .ok (.iconst 1, 1) := by decide +kernel
theorem d2_27 : decode method_3_code 27 = .ok (.goto 4, 3) := by decide +kernel
theorem d2_31 : decode method_3_code 31 = .ok (.ireturn, 1) := by decide +kernel
theorem d2_5 : decode method_3_code 5 = .ok (.iload_n 1, 1) := by decide +kernel
theorem d2_6 : decode method_3_code 6 = .ok (.iload_n 2, 1) := by decide +kernel
theorem d2_7 : decode method_3_code 7 = .ok (.iconst 3, 1) := by decide +kernel
theorem d2_8 : decode method_3_code 8 = .ok (.iadd, 1) := by decide +kernel
theorem d2_9 : decode method_3_code 9 = .ok (.if_icmp .le 23, 3) := by decide +kernel
theorem d2_32 : decode method_3_code 32 = .ok (.iload_n 1, 1) := by decide +kernel
theorem d2_33 : decode method_3_code 33 = .ok (.iload_n 2, 1) := by decide +kernel
theorem d2_34 : decode method_3_code 34 = .ok (.isub, 1) := by decide +kernel
theorem d2_35 : decode method_3_code 35 = .ok (.istore 7, 2) := by decide +kernel
theorem d2_37 : decode method_3_code 37 = .ok (.iload 7, 2) := by decide +kernel
theorem d2_39 : decode method_3_code 39 = .ok (.ifCond .ne 14, 3) := by decide +kernel
theorem d2_42 : decode method_3_code 42 = .ok (.lload 5, 2) := by decide +kernel
theorem d2_44 : decode method_3_code 44 = .ok (.ldc2_w 26, 3) := by decide +kernel
theorem d2_47 : decode method_3_code 47 = .ok (.ldiv, 1) := by decide +kernel
theorem d2_48 : decode method_3_code 48 = .ok (.lstore 8, 2) := by decide +kernel
theorem d2_50 : decode method_3_code 50 = .ok (.goto 53, 3) := by decide +kernel
theorem d2_103 : decode method_3_code 103 = .ok (.aload_n 0, 1) := by decide +kernel
theorem d2_104 : decode method_3_code 104 = .ok (.iload_n 1, 1) := by decide +kernel
theorem d2_105 : decode method_3_code 105 = .ok (.baload, 1) := by decide +kernel
theorem d2_106 : decode method_3_code 106 = .ok (.sipush 255, 3) := by decide +kernel
theorem d2_109 : decode method_3_code 109 = .ok (.iand, 1) := by decide +kernel
theorem d2_110 : decode method_3_code 110 = .ok (.i2l, 1) := by decide +kernel
theorem d2_111 : decode method_3_code 111 = .ok (.lload 8, 2) := by decide +kernel
theorem d2_113 : decode method_3_code 113 = .ok (.lcmp, 1) := by decide +kernel
theorem d2_114 : decode method_3_code 114 = .ok (.ifCond .ne 7, 3) := by decide +kernel
theorem d2_117 : decode method_3_code 117 = .ok (.iconst 1, 1) := by decide +kernel
theorem d2_118 : decode method_3_code 118 = .ok (.goto 4, 3) := by decide +kernel
theorem d2_122 : decode method_3_code 122 = .ok (.ireturn, 1) := by decide +kernel
theorem d2_53 : decode method_3_code 53 = .ok (.iload 7, 2) := by decide +kernel
theorem d2_55 : decode method_3_code 55 = .ok (.iconst 1, 1) := by decide +kernel
theorem d2_56 : decode method_3_code 56 = .ok (.if_icmp .ne 18, 3) := by decide +kernel
theorem d2_59 : decode method_3_code 59 = .ok (.lload 5, 2) := by decide +kernel
theorem d2_61 : decode method_3_code 61 = .ok (.ldc2_w 28, 3) := by decide +kernel
theorem d2_64 : decode method_3_code 64 = .ok (.ldiv, 1) := by decide +kernel
theorem d2_65 : decode method_3_code 65 = .ok (.ldc2_w 30, 3) := by decide +kernel
theorem d2_68 : decode method_3_code 68 = .ok (.lrem, 1) := by decide +kernel
theorem d2_69 : decode method_3_code 69 = .ok (.lstore 8, 2) := by decide +kernel
theorem d2_71 : decode method_3_code 71 = .ok (.goto 32, 3) := by decide +kernel
theorem d2_74 : decode method_3_code 74 = .ok (.iload 7, 2) := by decide +kernel
theorem d2_76 : decode method_3_code 76 = .ok (.iconst 2, 1) := by decide +kernel
theorem d2_77 : decode method_3_code 77 = .ok (.if_icmp .ne 18, 3) := by decide +kernel
theorem d2_80 : decode method_3_code 80 = .ok (.lload 5, 2) := by decide +kernel
theorem d2_82 : decode method_3_code 82 = .ok (.ldc2_w 30, 3) := by decide +kernel
theorem d2_85 : decode method_3_code 85 = .ok (.ldiv, 1) := by decide +kernel
theorem d2_86 : decode method_3_code 86 = .ok (.ldc2_w 30, 3) := by decide +kernel
theorem d2_89 : decode method_3_code 89 = .ok (.lrem, 1) := by decide +kernel
theorem d2_90 : decode method_3_code 90 = .ok (.lstore 8, 2) := by decide +kernel
theorem d2_92 : decode method_3_code 92 = .ok (.goto 11, 3) := by decide +kernel
theorem d2_95 : decode method_3_code 95 = .ok (.lload 5, 2) := by decide +kernel
theorem d2_97 : decode method_3_code 97 = .ok (.ldc2_w 30, 3) := by decide +kernel
theorem d2_100 : decode method_3_code 100 = .ok (.lrem, 1) := by decide +kernel
theorem d2_101 : decode method_3_code 101 = .ok (.lstore 8, 2) := by decide +kernel
def own_Q2 (Z : State) (o0 : Addr) (p1 : Int32) (p2 : Int32) (q3 : Int64) (q5 : Int64) (kn : Nat) (i : Nat) (f : Nat → Value) (h0 : Heap) (n0 : Nat) (v : Option Value) (h : Heap) (L : List Loc) : Prop := v = some (.int 1) ∧ Fr n0 L ∧ h = h0
set_option maxRecDepth 65536 in
set_option maxHeartbeats 40000000 in
theorem rm2 (l : Launch) (Z : State) (a0 : Array Value) (hw : ∀ d ∈ tables_1, d.before a0 Z = true) (ws : List Jvm.Cond) (o0 : Addr) (p1 : Int32) (p2 : Int32) (q3 : Int64) (q5 : Int64) (kn : Nat) (i : Nat) (f : Nat → Value) (h0 : Heap) (n0 : Nat) (Z0 : n0 ≤ h0.size) (PA : own_Av Z h0 o0 .byte 8 f) (Pk : p1.toInt = (kn : Int)) (Pk8 : kn < 8) (Pi : p2.toInt = (i : Int)) (Pl : i ≤ 4) (H1 : kn < i ∨ i + 3 < kn → own_iv (f kn) = (((q3.toUInt64 >>> (((8 : Int32) * p1) &&& 0x3f).toInt64.toUInt64).toInt64).toInt32).toInt8.toInt32) (H2 : own_ask f i kn q5.toInt) (Hu : 0 ≤ q5.toInt ∧ q5.toInt < 4294967296) :
    MetFree l (⟨"linewarden/service/Sha256PutWordPinLaw", "at", "([BIIJJ)Z"⟩ : MethodName) (head1 (Jvm.Cond.code (⟨"linewarden/service/Sha256PutWordPinLaw", "at", "([BIIJJ)Z"⟩ : MethodName) method_3_code 10 (some .boolean) :: ws) ({ frames := 0, cells := 0, slots := 0, locals := 0 } : Room)) (fun a U => a = #[(.ref o0), (.int p1), (.int p2), (.long q3), (.long q5)] ∧ Z.Warmed39 U.vm ∧ U.heap = h0) (fun _ _ _ _ _ => True) (fun _ U o U' => ∃ v L, o = .returned v ∧ own_Q2 Z o0 p1 p2 q3 q5 kn i f h0 n0 v U'.heap L ∧ FrameEnd U o U' L ({ frames := 0, cells := 0, slots := 0, locals := 0 } : Room).cells ({ frames := 0, cells := 0, slots := 0, locals := 0 } : Room).slots) := by
  refine own_metfree (Q := own_Q2 Z o0 p1 p2 q3 q5 kn i f h0 n0) (plainFor_of_name own_pn2) ?_
  intro p e s m below meth c s₁ X0 hx hby hml hret hown hnm hZ e0 G go fin
  have N0 := Fr.nil n0
  refine go _ (s₁.setTop (mkF m 0 #[.val (.ref o0), .val (.int p1), .val (.int p2), .val (.long q3), .second, .val (.long q5), .second, .unset, .unset, .unset] [])) (fun t k => castTop (own_ef2 m o0 p1 p2 q3 q5) k) ?_
  obtain ⟨C1, C2, C3⟩ := own_cmp Pk Pi Pl Pk8
  refine go _ (s₁.setTop (mkF m 1 #[.val (.ref o0), .val (.int p1), .val (.int p2), .val (.long q3), .second, .val (.long q5), .second, .unset, .unset, .unset] [(.int p1)])) (fun t k => XS.iloadN X0.here hx rfl (hb hby d2_0) rfl k) ?_
  refine go _ (s₁.setTop (mkF m 2 #[.val (.ref o0), .val (.int p1), .val (.int p2), .val (.long q3), .second, .val (.long q5), .second, .unset, .unset, .unset] [(.int p2), (.int p1)])) (fun t k => XS.iloadN X0.here hx rfl (hb hby d2_1) rfl k) ?_
  rcases Decidable.em (p1 < p2) with hc2 | hc2
  · refine go _ (s₁.setTop (mkF m 12 #[.val (.ref o0), .val (.int p1), .val (.int p2), .val (.long q3), .second, .val (.long q5), .second, .unset, .unset, .unset] [])) (fun t k => XS.icmpYes X0.here hx rfl (pc0 := 2) (pc' := 12) rfl (hb hby d2_2) rfl (tlt hc2).1 (by decide) (by decide) k) ?_
    refine go _ (s₁.setTop (mkF m 13 #[.val (.ref o0), .val (.int p1), .val (.int p2), .val (.long q3), .second, .val (.long q5), .second, .unset, .unset, .unset] [(.ref o0)])) (fun t k => XS.aloadN X0.here hx rfl (hb hby d2_12) rfl rfl k) ?_
    refine go _ (s₁.setTop (mkF m 14 #[.val (.ref o0), .val (.int p1), .val (.int p2), .val (.long q3), .second, .val (.long q5), .second, .unset, .unset, .unset] [(.int p1), (.ref o0)])) (fun t k => XS.iloadN X0.here hx rfl (hb hby d2_13) rfl k) ?_
    refine go _ (s₁.setTop (mkF m 15 #[.val (.ref o0), .val (.int p1), .val (.int p2), .val (.long q3), .second, .val (.long q5), .second, .unset, .unset, .unset] [(.int (own_iv (f kn)))])) (fun t k => own_ldB X0 hx hZ e0 PA (i := kn) Pk Pk8 (g := (mkF m 14 #[.val (.ref o0), .val (.int p1), .val (.int p2), .val (.long q3), .second, .val (.long q5), .second, .unset, .unset, .unset] [(.int p1), (.ref o0)])) rfl rfl (hb hby d2_14) _ k) ?_
    refine go _ (s₁.setTop (mkF m 16 #[.val (.ref o0), .val (.int p1), .val (.int p2), .val (.long q3), .second, .val (.long q5), .second, .unset, .unset, .unset] [(.long q3), (.int (own_iv (f kn)))])) (fun t k => XS.lloadN X0.here hx rfl (hb hby d2_15) rfl k) ?_
    refine go _ (s₁.setTop (mkF m 18 #[.val (.ref o0), .val (.int p1), .val (.int p2), .val (.long q3), .second, .val (.long q5), .second, .unset, .unset, .unset] [(.int (8 : Int32)), (.long q3), (.int (own_iv (f kn)))])) (fun t k => XS.bipush X0.here hx rfl (hb hby d2_16) k) ?_
    refine go _ (s₁.setTop (mkF m 19 #[.val (.ref o0), .val (.int p1), .val (.int p2), .val (.long q3), .second, .val (.long q5), .second, .unset, .unset, .unset] [(.int p1), (.int (8 : Int32)), (.long q3), (.int (own_iv (f kn)))])) (fun t k => XS.iloadN X0.here hx rfl (hb hby d2_18) rfl k) ?_
    refine go _ (s₁.setTop (mkF m 20 #[.val (.ref o0), .val (.int p1), .val (.int p2), .val (.long q3), .second, .val (.long q5), .second, .unset, .unset, .unset] [(.int ((8 : Int32) * p1)), (.long q3), (.int (own_iv (f kn)))])) (fun t k => XS.imul X0.here hx rfl (hb hby d2_19) rfl k) ?_
    refine go _ (s₁.setTop (mkF m 21 #[.val (.ref o0), .val (.int p1), .val (.int p2), .val (.long q3), .second, .val (.long q5), .second, .unset, .unset, .unset] [(.long ((q3.toUInt64 >>> (((8 : Int32) * p1) &&& 0x3f).toInt64.toUInt64).toInt64)), (.int (own_iv (f kn)))])) (fun t k => XS.lushr X0.here hx rfl (hb hby d2_20) rfl k) ?_
    refine go _ (s₁.setTop (mkF m 22 #[.val (.ref o0), .val (.int p1), .val (.int p2), .val (.long q3), .second, .val (.long q5), .second, .unset, .unset, .unset] [(.int (((q3.toUInt64 >>> (((8 : Int32) * p1) &&& 0x3f).toInt64.toUInt64).toInt64).toInt32)), (.int (own_iv (f kn)))])) (fun t k => XS.l2i X0.here hx rfl (hb hby d2_21) rfl k) ?_
    refine go _ (s₁.setTop (mkF m 23 #[.val (.ref o0), .val (.int p1), .val (.int p2), .val (.long q3), .second, .val (.long q5), .second, .unset, .unset, .unset] [(.int ((((q3.toUInt64 >>> (((8 : Int32) * p1) &&& 0x3f).toInt64.toUInt64).toInt64).toInt32).toInt8.toInt32)), (.int (own_iv (f kn)))])) (fun t k => XS.i2b X0.here hx rfl (hb hby d2_22) rfl k) ?_
    have hc23 : (own_iv (f kn)) = ((((q3.toUInt64 >>> (((8 : Int32) * p1) &&& 0x3f).toInt64.toUInt64).toInt64).toInt32).toInt8.toInt32) := by exact H1 (Or.inl (C1.mp hc2))
    refine go _ (s₁.setTop (mkF m 26 #[.val (.ref o0), .val (.int p1), .val (.int p2), .val (.long q3), .second, .val (.long q5), .second, .unset, .unset, .unset] [])) (fun t k => XS.icmpNo X0.here hx rfl (hb hby d2_23) rfl (teq hc23).2 k) ?_
    refine go _ (s₁.setTop (mkF m 27 #[.val (.ref o0), .val (.int p1), .val (.int p2), .val (.long q3), .second, .val (.long q5), .second, .unset, .unset, .unset] [(.int (1 : Int32))])) (fun t k => XS.iconst X0.here hx rfl (hb hby d2_26) k) ?_
    refine go _ (s₁.setTop (mkF m 31 #[.val (.ref o0), .val (.int p1), .val (.int p2), .val (.long q3), .second, .val (.long q5), .second, .unset, .unset, .unset] [(.int (1 : Int32))])) (fun t k => XS.goto X0.here hx rfl (pc0 := 27) (pc' := 31) rfl (hb hby d2_27) (by decide) (by decide) k) ?_
    refine fin (some (.int (1 : Int32))) (mkF m 31 #[.val (.ref o0), .val (.int p1), .val (.int p2), .val (.long q3), .second, .val (.long q5), .second, .unset, .unset, .unset] [(.int (1 : Int32))]) X0 (fun h => by cases h) (fun fs hr => retOut X0 hx (t := .boolean) hret rfl (Or.inl ⟨rfl, by simp, _, rfl⟩) (hb hby d2_31) hr) ?_ (by decide) (by decide)
    try rw [e0]
    exact ⟨rfl, N0, rfl⟩
  · refine go _ (s₁.setTop (mkF m 5 #[.val (.ref o0), .val (.int p1), .val (.int p2), .val (.long q3), .second, .val (.long q5), .second, .unset, .unset, .unset] [])) (fun t k => XS.icmpNo X0.here hx rfl (hb hby d2_2) rfl (flt hc2).1 k) ?_
    refine go _ (s₁.setTop (mkF m 6 #[.val (.ref o0), .val (.int p1), .val (.int p2), .val (.long q3), .second, .val (.long q5), .second, .unset, .unset, .unset] [(.int p1)])) (fun t k => XS.iloadN X0.here hx rfl (hb hby d2_5) rfl k) ?_
    refine go _ (s₁.setTop (mkF m 7 #[.val (.ref o0), .val (.int p1), .val (.int p2), .val (.long q3), .second, .val (.long q5), .second, .unset, .unset, .unset] [(.int p2), (.int p1)])) (fun t k => XS.iloadN X0.here hx rfl (hb hby d2_6) rfl k) ?_
    refine go _ (s₁.setTop (mkF m 8 #[.val (.ref o0), .val (.int p1), .val (.int p2), .val (.long q3), .second, .val (.long q5), .second, .unset, .unset, .unset] [(.int (3 : Int32)), (.int p2), (.int p1)])) (fun t k => XS.iconst X0.here hx rfl (hb hby d2_7) k) ?_
    refine go _ (s₁.setTop (mkF m 9 #[.val (.ref o0), .val (.int p1), .val (.int p2), .val (.long q3), .second, .val (.long q5), .second, .unset, .unset, .unset] [(.int (p2 + (3 : Int32))), (.int p1)])) (fun t k => XS.iadd X0.here hx rfl (hb hby d2_8) rfl k) ?_
    rcases Decidable.em ((p2 + (3 : Int32)) < p1) with hc9 | hc9
    · refine go _ (s₁.setTop (mkF m 12 #[.val (.ref o0), .val (.int p1), .val (.int p2), .val (.long q3), .second, .val (.long q5), .second, .unset, .unset, .unset] [])) (fun t k => XS.icmpNo X0.here hx rfl (hb hby d2_9) rfl (tlt hc9).2.2.2 k) ?_
      refine go _ (s₁.setTop (mkF m 13 #[.val (.ref o0), .val (.int p1), .val (.int p2), .val (.long q3), .second, .val (.long q5), .second, .unset, .unset, .unset] [(.ref o0)])) (fun t k => XS.aloadN X0.here hx rfl (hb hby d2_12) rfl rfl k) ?_
      refine go _ (s₁.setTop (mkF m 14 #[.val (.ref o0), .val (.int p1), .val (.int p2), .val (.long q3), .second, .val (.long q5), .second, .unset, .unset, .unset] [(.int p1), (.ref o0)])) (fun t k => XS.iloadN X0.here hx rfl (hb hby d2_13) rfl k) ?_
      refine go _ (s₁.setTop (mkF m 15 #[.val (.ref o0), .val (.int p1), .val (.int p2), .val (.long q3), .second, .val (.long q5), .second, .unset, .unset, .unset] [(.int (own_iv (f kn)))])) (fun t k => own_ldB X0 hx hZ e0 PA (i := kn) Pk Pk8 (g := (mkF m 14 #[.val (.ref o0), .val (.int p1), .val (.int p2), .val (.long q3), .second, .val (.long q5), .second, .unset, .unset, .unset] [(.int p1), (.ref o0)])) rfl rfl (hb hby d2_14) _ k) ?_
      refine go _ (s₁.setTop (mkF m 16 #[.val (.ref o0), .val (.int p1), .val (.int p2), .val (.long q3), .second, .val (.long q5), .second, .unset, .unset, .unset] [(.long q3), (.int (own_iv (f kn)))])) (fun t k => XS.lloadN X0.here hx rfl (hb hby d2_15) rfl k) ?_
      refine go _ (s₁.setTop (mkF m 18 #[.val (.ref o0), .val (.int p1), .val (.int p2), .val (.long q3), .second, .val (.long q5), .second, .unset, .unset, .unset] [(.int (8 : Int32)), (.long q3), (.int (own_iv (f kn)))])) (fun t k => XS.bipush X0.here hx rfl (hb hby d2_16) k) ?_
      refine go _ (s₁.setTop (mkF m 19 #[.val (.ref o0), .val (.int p1), .val (.int p2), .val (.long q3), .second, .val (.long q5), .second, .unset, .unset, .unset] [(.int p1), (.int (8 : Int32)), (.long q3), (.int (own_iv (f kn)))])) (fun t k => XS.iloadN X0.here hx rfl (hb hby d2_18) rfl k) ?_
      refine go _ (s₁.setTop (mkF m 20 #[.val (.ref o0), .val (.int p1), .val (.int p2), .val (.long q3), .second, .val (.long q5), .second, .unset, .unset, .unset] [(.int ((8 : Int32) * p1)), (.long q3), (.int (own_iv (f kn)))])) (fun t k => XS.imul X0.here hx rfl (hb hby d2_19) rfl k) ?_
      refine go _ (s₁.setTop (mkF m 21 #[.val (.ref o0), .val (.int p1), .val (.int p2), .val (.long q3), .second, .val (.long q5), .second, .unset, .unset, .unset] [(.long ((q3.toUInt64 >>> (((8 : Int32) * p1) &&& 0x3f).toInt64.toUInt64).toInt64)), (.int (own_iv (f kn)))])) (fun t k => XS.lushr X0.here hx rfl (hb hby d2_20) rfl k) ?_
      refine go _ (s₁.setTop (mkF m 22 #[.val (.ref o0), .val (.int p1), .val (.int p2), .val (.long q3), .second, .val (.long q5), .second, .unset, .unset, .unset] [(.int (((q3.toUInt64 >>> (((8 : Int32) * p1) &&& 0x3f).toInt64.toUInt64).toInt64).toInt32)), (.int (own_iv (f kn)))])) (fun t k => XS.l2i X0.here hx rfl (hb hby d2_21) rfl k) ?_
      refine go _ (s₁.setTop (mkF m 23 #[.val (.ref o0), .val (.int p1), .val (.int p2), .val (.long q3), .second, .val (.long q5), .second, .unset, .unset, .unset] [(.int ((((q3.toUInt64 >>> (((8 : Int32) * p1) &&& 0x3f).toInt64.toUInt64).toInt64).toInt32).toInt8.toInt32)), (.int (own_iv (f kn)))])) (fun t k => XS.i2b X0.here hx rfl (hb hby d2_22) rfl k) ?_
      have hc23 : (own_iv (f kn)) = ((((q3.toUInt64 >>> (((8 : Int32) * p1) &&& 0x3f).toInt64.toUInt64).toInt64).toInt32).toInt8.toInt32) := by exact H1 (Or.inr (C2.mp hc9))
      refine go _ (s₁.setTop (mkF m 26 #[.val (.ref o0), .val (.int p1), .val (.int p2), .val (.long q3), .second, .val (.long q5), .second, .unset, .unset, .unset] [])) (fun t k => XS.icmpNo X0.here hx rfl (hb hby d2_23) rfl (teq hc23).2 k) ?_
      refine go _ (s₁.setTop (mkF m 27 #[.val (.ref o0), .val (.int p1), .val (.int p2), .val (.long q3), .second, .val (.long q5), .second, .unset, .unset, .unset] [(.int (1 : Int32))])) (fun t k => XS.iconst X0.here hx rfl (hb hby d2_26) k) ?_
      refine go _ (s₁.setTop (mkF m 31 #[.val (.ref o0), .val (.int p1), .val (.int p2), .val (.long q3), .second, .val (.long q5), .second, .unset, .unset, .unset] [(.int (1 : Int32))])) (fun t k => XS.goto X0.here hx rfl (pc0 := 27) (pc' := 31) rfl (hb hby d2_27) (by decide) (by decide) k) ?_
      refine fin (some (.int (1 : Int32))) (mkF m 31 #[.val (.ref o0), .val (.int p1), .val (.int p2), .val (.long q3), .second, .val (.long q5), .second, .unset, .unset, .unset] [(.int (1 : Int32))]) X0 (fun h => by cases h) (fun fs hr => retOut X0 hx (t := .boolean) hret rfl (Or.inl ⟨rfl, by simp, _, rfl⟩) (hb hby d2_31) hr) ?_ (by decide) (by decide)
      try rw [e0]
      exact ⟨rfl, N0, rfl⟩
    · refine go _ (s₁.setTop (mkF m 32 #[.val (.ref o0), .val (.int p1), .val (.int p2), .val (.long q3), .second, .val (.long q5), .second, .unset, .unset, .unset] [])) (fun t k => XS.icmpYes X0.here hx rfl (pc0 := 9) (pc' := 32) rfl (hb hby d2_9) rfl (flt hc9).2.2.2 (by decide) (by decide) k) ?_
      have hi1 : i ≤ kn := Nat.le_of_not_lt fun q => hc2 (C1.mpr q)
      have hi2 : kn ≤ i + 3 := Nat.le_of_not_lt fun q => hc9 (C2.mpr q)
      have C4 := C3 hi1
      refine go _ (s₁.setTop (mkF m 33 #[.val (.ref o0), .val (.int p1), .val (.int p2), .val (.long q3), .second, .val (.long q5), .second, .unset, .unset, .unset] [(.int p1)])) (fun t k => XS.iloadN X0.here hx rfl (hb hby d2_32) rfl k) ?_
      refine go _ (s₁.setTop (mkF m 34 #[.val (.ref o0), .val (.int p1), .val (.int p2), .val (.long q3), .second, .val (.long q5), .second, .unset, .unset, .unset] [(.int p2), (.int p1)])) (fun t k => XS.iloadN X0.here hx rfl (hb hby d2_33) rfl k) ?_
      refine go _ (s₁.setTop (mkF m 35 #[.val (.ref o0), .val (.int p1), .val (.int p2), .val (.long q3), .second, .val (.long q5), .second, .unset, .unset, .unset] [(.int (p1 - p2))])) (fun t k => XS.isub X0.here hx rfl (hb hby d2_34) rfl k) ?_
      refine go _ (s₁.setTop (mkF m 37 #[.val (.ref o0), .val (.int p1), .val (.int p2), .val (.long q3), .second, .val (.long q5), .second, .val (.int (p1 - p2)), .unset, .unset] [])) (fun t k => XS.istore X0.here hx rfl (hb hby d2_35) rfl (l' := #[.val (.ref o0), .val (.int p1), .val (.int p2), .val (.long q3), .second, .val (.long q5), .second, .val (.int (p1 - p2)), .unset, .unset]) rfl k) ?_
      refine go _ (s₁.setTop (mkF m 39 #[.val (.ref o0), .val (.int p1), .val (.int p2), .val (.long q3), .second, .val (.long q5), .second, .val (.int (p1 - p2)), .unset, .unset] [(.int (p1 - p2))])) (fun t k => XS.iload X0.here hx rfl (hb hby d2_37) rfl k) ?_
      rcases Decidable.em ((p1 - p2) = (0 : Int32)) with hc39 | hc39
      · refine go _ (s₁.setTop (mkF m 42 #[.val (.ref o0), .val (.int p1), .val (.int p2), .val (.long q3), .second, .val (.long q5), .second, .val (.int (p1 - p2)), .unset, .unset] [])) (fun t k => XS.ifNo X0.here hx rfl (hb hby d2_39) rfl ((if0 _ _).trans (teq hc39).2) k) ?_
        refine go _ (s₁.setTop (mkF m 44 #[.val (.ref o0), .val (.int p1), .val (.int p2), .val (.long q3), .second, .val (.long q5), .second, .val (.int (p1 - p2)), .unset, .unset] [(.long q5)])) (fun t k => XS.lload X0.here hx rfl (hb hby d2_42) rfl k) ?_
        refine go _ (s₁.setTop (mkF m 47 #[.val (.ref o0), .val (.int p1), .val (.int p2), .val (.long q3), .second, .val (.long q5), .second, .val (.int (p1 - p2)), .unset, .unset] [(.long (16777216 : Int64)), (.long q5)])) (fun t k => X0.ldc2Long hx hown (mvT hZ (hw _ (List.mem_of_getElem? (i := 11) rfl))) (g := (mkF m 44 #[.val (.ref o0), .val (.int p1), .val (.int p2), .val (.long q3), .second, .val (.long q5), .second, .val (.int (p1 - p2)), .unset, .unset] [(.long q5)])) rfl (hb hby d2_44) _ k) ?_
        refine go _ (s₁.setTop (mkF m 48 #[.val (.ref o0), .val (.int p1), .val (.int p2), .val (.long q3), .second, .val (.long q5), .second, .val (.int (p1 - p2)), .unset, .unset] [(.long (q5 / (16777216 : Int64)))])) (fun t k => XS.ldiv X0.here hx rfl (hb hby d2_47) rfl (show (16777216 : Int64) ≠ 0 from by decide) k) ?_
        refine go _ (s₁.setTop (mkF m 50 #[.val (.ref o0), .val (.int p1), .val (.int p2), .val (.long q3), .second, .val (.long q5), .second, .val (.int (p1 - p2)), .val (.long (q5 / (16777216 : Int64))), .second] [])) (fun t k => XS.lstore X0.here hx rfl (hb hby d2_48) rfl (l' := #[.val (.ref o0), .val (.int p1), .val (.int p2), .val (.long q3), .second, .val (.long q5), .second, .val (.int (p1 - p2)), .val (.long (q5 / (16777216 : Int64))), .second]) rfl k) ?_
        refine go _ (s₁.setTop (mkF m 103 #[.val (.ref o0), .val (.int p1), .val (.int p2), .val (.long q3), .second, .val (.long q5), .second, .val (.int (p1 - p2)), .val (.long (q5 / (16777216 : Int64))), .second] [])) (fun t k => XS.goto X0.here hx rfl (pc0 := 50) (pc' := 103) rfl (hb hby d2_50) (by decide) (by decide) k) ?_
        refine go _ (s₁.setTop (mkF m 104 #[.val (.ref o0), .val (.int p1), .val (.int p2), .val (.long q3), .second, .val (.long q5), .second, .val (.int (p1 - p2)), .val (.long (q5 / (16777216 : Int64))), .second] [(.ref o0)])) (fun t k => XS.aloadN X0.here hx rfl (hb hby d2_103) rfl rfl k) ?_
        refine go _ (s₁.setTop (mkF m 105 #[.val (.ref o0), .val (.int p1), .val (.int p2), .val (.long q3), .second, .val (.long q5), .second, .val (.int (p1 - p2)), .val (.long (q5 / (16777216 : Int64))), .second] [(.int p1), (.ref o0)])) (fun t k => XS.iloadN X0.here hx rfl (hb hby d2_104) rfl k) ?_
        refine go _ (s₁.setTop (mkF m 106 #[.val (.ref o0), .val (.int p1), .val (.int p2), .val (.long q3), .second, .val (.long q5), .second, .val (.int (p1 - p2)), .val (.long (q5 / (16777216 : Int64))), .second] [(.int (own_iv (f kn)))])) (fun t k => own_ldB X0 hx hZ e0 PA (i := kn) Pk Pk8 (g := (mkF m 105 #[.val (.ref o0), .val (.int p1), .val (.int p2), .val (.long q3), .second, .val (.long q5), .second, .val (.int (p1 - p2)), .val (.long (q5 / (16777216 : Int64))), .second] [(.int p1), (.ref o0)])) rfl rfl (hb hby d2_105) _ k) ?_
        refine go _ (s₁.setTop (mkF m 109 #[.val (.ref o0), .val (.int p1), .val (.int p2), .val (.long q3), .second, .val (.long q5), .second, .val (.int (p1 - p2)), .val (.long (q5 / (16777216 : Int64))), .second] [(.int (255 : Int32)), (.int (own_iv (f kn)))])) (fun t k => XS.sipush X0.here hx rfl (hb hby d2_106) k) ?_
        refine go _ (s₁.setTop (mkF m 110 #[.val (.ref o0), .val (.int p1), .val (.int p2), .val (.long q3), .second, .val (.long q5), .second, .val (.int (p1 - p2)), .val (.long (q5 / (16777216 : Int64))), .second] [(.int ((own_iv (f kn)) &&& (255 : Int32)))])) (fun t k => XS.iand X0.here hx rfl (hb hby d2_109) rfl k) ?_
        refine go _ (s₁.setTop (mkF m 111 #[.val (.ref o0), .val (.int p1), .val (.int p2), .val (.long q3), .second, .val (.long q5), .second, .val (.int (p1 - p2)), .val (.long (q5 / (16777216 : Int64))), .second] [(.long (((own_iv (f kn)) &&& (255 : Int32)).toInt64))])) (fun t k => XS.i2l X0.here hx rfl (hb hby d2_110) rfl k) ?_
        refine go _ (s₁.setTop (mkF m 113 #[.val (.ref o0), .val (.int p1), .val (.int p2), .val (.long q3), .second, .val (.long q5), .second, .val (.int (p1 - p2)), .val (.long (q5 / (16777216 : Int64))), .second] [(.long (q5 / (16777216 : Int64))), (.long (((own_iv (f kn)) &&& (255 : Int32)).toInt64))])) (fun t k => XS.lload X0.here hx rfl (hb hby d2_111) rfl k) ?_
        refine go _ (s₁.setTop (mkF m 114 #[.val (.ref o0), .val (.int p1), .val (.int p2), .val (.long q3), .second, .val (.long q5), .second, .val (.int (p1 - p2)), .val (.long (q5 / (16777216 : Int64))), .second] [(.int (lcmpW (((own_iv (f kn)) &&& (255 : Int32)).toInt64) (q5 / (16777216 : Int64))))])) (fun t k => XS.lcmp X0.here hx rfl (hb hby d2_113) rfl k) ?_
        have hc114 : (((own_iv (f kn)) &&& (255 : Int32)).toInt64) = (q5 / (16777216 : Int64)) := by
          have hd : kn - i = 0 := (own_dist C4 (by decide)).mp hc39
          exact own_eqb (p1 := p1) (p2 := p2) (d := 0) H2 (by omega) (by omega) (by simpa using own_x0 q5 Hu)
        refine go _ (s₁.setTop (mkF m 117 #[.val (.ref o0), .val (.int p1), .val (.int p2), .val (.long q3), .second, .val (.long q5), .second, .val (.int (p1 - p2)), .val (.long (q5 / (16777216 : Int64))), .second] [])) (fun t k => XS.ifNo X0.here hx rfl (hb hby d2_114) rfl ((if0 _ _).trans (teq ((lw_eq _ _).mpr hc114)).2) k) ?_
        refine go _ (s₁.setTop (mkF m 118 #[.val (.ref o0), .val (.int p1), .val (.int p2), .val (.long q3), .second, .val (.long q5), .second, .val (.int (p1 - p2)), .val (.long (q5 / (16777216 : Int64))), .second] [(.int (1 : Int32))])) (fun t k => XS.iconst X0.here hx rfl (hb hby d2_117) k) ?_
        refine go _ (s₁.setTop (mkF m 122 #[.val (.ref o0), .val (.int p1), .val (.int p2), .val (.long q3), .second, .val (.long q5), .second, .val (.int (p1 - p2)), .val (.long (q5 / (16777216 : Int64))), .second] [(.int (1 : Int32))])) (fun t k => XS.goto X0.here hx rfl (pc0 := 118) (pc' := 122) rfl (hb hby d2_118) (by decide) (by decide) k) ?_
        refine fin (some (.int (1 : Int32))) (mkF m 122 #[.val (.ref o0), .val (.int p1), .val (.int p2), .val (.long q3), .second, .val (.long q5), .second, .val (.int (p1 - p2)), .val (.long (q5 / (16777216 : Int64))), .second] [(.int (1 : Int32))]) X0 (fun h => by cases h) (fun fs hr => retOut X0 hx (t := .boolean) hret rfl (Or.inl ⟨rfl, by simp, _, rfl⟩) (hb hby d2_122) hr) ?_ (by decide) (by decide)
        try rw [e0]
        exact ⟨rfl, N0, rfl⟩
      · refine go _ (s₁.setTop (mkF m 53 #[.val (.ref o0), .val (.int p1), .val (.int p2), .val (.long q3), .second, .val (.long q5), .second, .val (.int (p1 - p2)), .unset, .unset] [])) (fun t k => XS.ifYes X0.here hx rfl (pc0 := 39) (pc' := 53) rfl (hb hby d2_39) rfl ((if0 _ _).trans (feq hc39).2) (by decide) (by decide) k) ?_
        refine go _ (s₁.setTop (mkF m 55 #[.val (.ref o0), .val (.int p1), .val (.int p2), .val (.long q3), .second, .val (.long q5), .second, .val (.int (p1 - p2)), .unset, .unset] [(.int (p1 - p2))])) (fun t k => XS.iload X0.here hx rfl (hb hby d2_53) rfl k) ?_
        refine go _ (s₁.setTop (mkF m 56 #[.val (.ref o0), .val (.int p1), .val (.int p2), .val (.long q3), .second, .val (.long q5), .second, .val (.int (p1 - p2)), .unset, .unset] [(.int (1 : Int32)), (.int (p1 - p2))])) (fun t k => XS.iconst X0.here hx rfl (hb hby d2_55) k) ?_
        rcases Decidable.em ((p1 - p2) = (1 : Int32)) with hc56 | hc56
        · refine go _ (s₁.setTop (mkF m 59 #[.val (.ref o0), .val (.int p1), .val (.int p2), .val (.long q3), .second, .val (.long q5), .second, .val (.int (p1 - p2)), .unset, .unset] [])) (fun t k => XS.icmpNo X0.here hx rfl (hb hby d2_56) rfl (teq hc56).2 k) ?_
          refine go _ (s₁.setTop (mkF m 61 #[.val (.ref o0), .val (.int p1), .val (.int p2), .val (.long q3), .second, .val (.long q5), .second, .val (.int (p1 - p2)), .unset, .unset] [(.long q5)])) (fun t k => XS.lload X0.here hx rfl (hb hby d2_59) rfl k) ?_
          refine go _ (s₁.setTop (mkF m 64 #[.val (.ref o0), .val (.int p1), .val (.int p2), .val (.long q3), .second, .val (.long q5), .second, .val (.int (p1 - p2)), .unset, .unset] [(.long (65536 : Int64)), (.long q5)])) (fun t k => X0.ldc2Long hx hown (mvT hZ (hw _ (List.mem_of_getElem? (i := 12) rfl))) (g := (mkF m 61 #[.val (.ref o0), .val (.int p1), .val (.int p2), .val (.long q3), .second, .val (.long q5), .second, .val (.int (p1 - p2)), .unset, .unset] [(.long q5)])) rfl (hb hby d2_61) _ k) ?_
          refine go _ (s₁.setTop (mkF m 65 #[.val (.ref o0), .val (.int p1), .val (.int p2), .val (.long q3), .second, .val (.long q5), .second, .val (.int (p1 - p2)), .unset, .unset] [(.long (q5 / (65536 : Int64)))])) (fun t k => XS.ldiv X0.here hx rfl (hb hby d2_64) rfl (show (65536 : Int64) ≠ 0 from by decide) k) ?_
          refine go _ (s₁.setTop (mkF m 68 #[.val (.ref o0), .val (.int p1), .val (.int p2), .val (.long q3), .second, .val (.long q5), .second, .val (.int (p1 - p2)), .unset, .unset] [(.long (256 : Int64)), (.long (q5 / (65536 : Int64)))])) (fun t k => X0.ldc2Long hx hown (mvT hZ (hw _ (List.mem_of_getElem? (i := 13) rfl))) (g := (mkF m 65 #[.val (.ref o0), .val (.int p1), .val (.int p2), .val (.long q3), .second, .val (.long q5), .second, .val (.int (p1 - p2)), .unset, .unset] [(.long (q5 / (65536 : Int64)))])) rfl (hb hby d2_65) _ k) ?_
          refine go _ (s₁.setTop (mkF m 69 #[.val (.ref o0), .val (.int p1), .val (.int p2), .val (.long q3), .second, .val (.long q5), .second, .val (.int (p1 - p2)), .unset, .unset] [(.long ((q5 / (65536 : Int64)) % (256 : Int64)))])) (fun t k => own_lrem X0.here hx rfl (hb hby d2_68) rfl (show (256 : Int64) ≠ 0 from by decide) k) ?_
          refine go _ (s₁.setTop (mkF m 71 #[.val (.ref o0), .val (.int p1), .val (.int p2), .val (.long q3), .second, .val (.long q5), .second, .val (.int (p1 - p2)), .val (.long ((q5 / (65536 : Int64)) % (256 : Int64))), .second] [])) (fun t k => XS.lstore X0.here hx rfl (hb hby d2_69) rfl (l' := #[.val (.ref o0), .val (.int p1), .val (.int p2), .val (.long q3), .second, .val (.long q5), .second, .val (.int (p1 - p2)), .val (.long ((q5 / (65536 : Int64)) % (256 : Int64))), .second]) rfl k) ?_
          refine go _ (s₁.setTop (mkF m 103 #[.val (.ref o0), .val (.int p1), .val (.int p2), .val (.long q3), .second, .val (.long q5), .second, .val (.int (p1 - p2)), .val (.long ((q5 / (65536 : Int64)) % (256 : Int64))), .second] [])) (fun t k => XS.goto X0.here hx rfl (pc0 := 71) (pc' := 103) rfl (hb hby d2_71) (by decide) (by decide) k) ?_
          refine go _ (s₁.setTop (mkF m 104 #[.val (.ref o0), .val (.int p1), .val (.int p2), .val (.long q3), .second, .val (.long q5), .second, .val (.int (p1 - p2)), .val (.long ((q5 / (65536 : Int64)) % (256 : Int64))), .second] [(.ref o0)])) (fun t k => XS.aloadN X0.here hx rfl (hb hby d2_103) rfl rfl k) ?_
          refine go _ (s₁.setTop (mkF m 105 #[.val (.ref o0), .val (.int p1), .val (.int p2), .val (.long q3), .second, .val (.long q5), .second, .val (.int (p1 - p2)), .val (.long ((q5 / (65536 : Int64)) % (256 : Int64))), .second] [(.int p1), (.ref o0)])) (fun t k => XS.iloadN X0.here hx rfl (hb hby d2_104) rfl k) ?_
          refine go _ (s₁.setTop (mkF m 106 #[.val (.ref o0), .val (.int p1), .val (.int p2), .val (.long q3), .second, .val (.long q5), .second, .val (.int (p1 - p2)), .val (.long ((q5 / (65536 : Int64)) % (256 : Int64))), .second] [(.int (own_iv (f kn)))])) (fun t k => own_ldB X0 hx hZ e0 PA (i := kn) Pk Pk8 (g := (mkF m 105 #[.val (.ref o0), .val (.int p1), .val (.int p2), .val (.long q3), .second, .val (.long q5), .second, .val (.int (p1 - p2)), .val (.long ((q5 / (65536 : Int64)) % (256 : Int64))), .second] [(.int p1), (.ref o0)])) rfl rfl (hb hby d2_105) _ k) ?_
          refine go _ (s₁.setTop (mkF m 109 #[.val (.ref o0), .val (.int p1), .val (.int p2), .val (.long q3), .second, .val (.long q5), .second, .val (.int (p1 - p2)), .val (.long ((q5 / (65536 : Int64)) % (256 : Int64))), .second] [(.int (255 : Int32)), (.int (own_iv (f kn)))])) (fun t k => XS.sipush X0.here hx rfl (hb hby d2_106) k) ?_
          refine go _ (s₁.setTop (mkF m 110 #[.val (.ref o0), .val (.int p1), .val (.int p2), .val (.long q3), .second, .val (.long q5), .second, .val (.int (p1 - p2)), .val (.long ((q5 / (65536 : Int64)) % (256 : Int64))), .second] [(.int ((own_iv (f kn)) &&& (255 : Int32)))])) (fun t k => XS.iand X0.here hx rfl (hb hby d2_109) rfl k) ?_
          refine go _ (s₁.setTop (mkF m 111 #[.val (.ref o0), .val (.int p1), .val (.int p2), .val (.long q3), .second, .val (.long q5), .second, .val (.int (p1 - p2)), .val (.long ((q5 / (65536 : Int64)) % (256 : Int64))), .second] [(.long (((own_iv (f kn)) &&& (255 : Int32)).toInt64))])) (fun t k => XS.i2l X0.here hx rfl (hb hby d2_110) rfl k) ?_
          refine go _ (s₁.setTop (mkF m 113 #[.val (.ref o0), .val (.int p1), .val (.int p2), .val (.long q3), .second, .val (.long q5), .second, .val (.int (p1 - p2)), .val (.long ((q5 / (65536 : Int64)) % (256 : Int64))), .second] [(.long ((q5 / (65536 : Int64)) % (256 : Int64))), (.long (((own_iv (f kn)) &&& (255 : Int32)).toInt64))])) (fun t k => XS.lload X0.here hx rfl (hb hby d2_111) rfl k) ?_
          refine go _ (s₁.setTop (mkF m 114 #[.val (.ref o0), .val (.int p1), .val (.int p2), .val (.long q3), .second, .val (.long q5), .second, .val (.int (p1 - p2)), .val (.long ((q5 / (65536 : Int64)) % (256 : Int64))), .second] [(.int (lcmpW (((own_iv (f kn)) &&& (255 : Int32)).toInt64) ((q5 / (65536 : Int64)) % (256 : Int64))))])) (fun t k => XS.lcmp X0.here hx rfl (hb hby d2_113) rfl k) ?_
          have hc114 : (((own_iv (f kn)) &&& (255 : Int32)).toInt64) = ((q5 / (65536 : Int64)) % (256 : Int64)) := by
            have hd : kn - i = 1 := (own_dist C4 (by decide)).mp hc56
            exact own_eqb (p1 := p1) (p2 := p2) (d := 1) H2 (by omega) (by omega) (by simpa using own_x1 q5 Hu)
          refine go _ (s₁.setTop (mkF m 117 #[.val (.ref o0), .val (.int p1), .val (.int p2), .val (.long q3), .second, .val (.long q5), .second, .val (.int (p1 - p2)), .val (.long ((q5 / (65536 : Int64)) % (256 : Int64))), .second] [])) (fun t k => XS.ifNo X0.here hx rfl (hb hby d2_114) rfl ((if0 _ _).trans (teq ((lw_eq _ _).mpr hc114)).2) k) ?_
          refine go _ (s₁.setTop (mkF m 118 #[.val (.ref o0), .val (.int p1), .val (.int p2), .val (.long q3), .second, .val (.long q5), .second, .val (.int (p1 - p2)), .val (.long ((q5 / (65536 : Int64)) % (256 : Int64))), .second] [(.int (1 : Int32))])) (fun t k => XS.iconst X0.here hx rfl (hb hby d2_117) k) ?_
          refine go _ (s₁.setTop (mkF m 122 #[.val (.ref o0), .val (.int p1), .val (.int p2), .val (.long q3), .second, .val (.long q5), .second, .val (.int (p1 - p2)), .val (.long ((q5 / (65536 : Int64)) % (256 : Int64))), .second] [(.int (1 : Int32))])) (fun t k => XS.goto X0.here hx rfl (pc0 := 118) (pc' := 122) rfl (hb hby d2_118) (by decide) (by decide) k) ?_
          refine fin (some (.int (1 : Int32))) (mkF m 122 #[.val (.ref o0), .val (.int p1), .val (.int p2), .val (.long q3), .second, .val (.long q5), .second, .val (.int (p1 - p2)), .val (.long ((q5 / (65536 : Int64)) % (256 : Int64))), .second] [(.int (1 : Int32))]) X0 (fun h => by cases h) (fun fs hr => retOut X0 hx (t := .boolean) hret rfl (Or.inl ⟨rfl, by simp, _, rfl⟩) (hb hby d2_122) hr) ?_ (by decide) (by decide)
          try rw [e0]
          exact ⟨rfl, N0, rfl⟩
        · refine go _ (s₁.setTop (mkF m 74 #[.val (.ref o0), .val (.int p1), .val (.int p2), .val (.long q3), .second, .val (.long q5), .second, .val (.int (p1 - p2)), .unset, .unset] [])) (fun t k => XS.icmpYes X0.here hx rfl (pc0 := 56) (pc' := 74) rfl (hb hby d2_56) rfl (feq hc56).2 (by decide) (by decide) k) ?_
          refine go _ (s₁.setTop (mkF m 76 #[.val (.ref o0), .val (.int p1), .val (.int p2), .val (.long q3), .second, .val (.long q5), .second, .val (.int (p1 - p2)), .unset, .unset] [(.int (p1 - p2))])) (fun t k => XS.iload X0.here hx rfl (hb hby d2_74) rfl k) ?_
          refine go _ (s₁.setTop (mkF m 77 #[.val (.ref o0), .val (.int p1), .val (.int p2), .val (.long q3), .second, .val (.long q5), .second, .val (.int (p1 - p2)), .unset, .unset] [(.int (2 : Int32)), (.int (p1 - p2))])) (fun t k => XS.iconst X0.here hx rfl (hb hby d2_76) k) ?_
          rcases Decidable.em ((p1 - p2) = (2 : Int32)) with hc77 | hc77
          · refine go _ (s₁.setTop (mkF m 80 #[.val (.ref o0), .val (.int p1), .val (.int p2), .val (.long q3), .second, .val (.long q5), .second, .val (.int (p1 - p2)), .unset, .unset] [])) (fun t k => XS.icmpNo X0.here hx rfl (hb hby d2_77) rfl (teq hc77).2 k) ?_
            refine go _ (s₁.setTop (mkF m 82 #[.val (.ref o0), .val (.int p1), .val (.int p2), .val (.long q3), .second, .val (.long q5), .second, .val (.int (p1 - p2)), .unset, .unset] [(.long q5)])) (fun t k => XS.lload X0.here hx rfl (hb hby d2_80) rfl k) ?_
            refine go _ (s₁.setTop (mkF m 85 #[.val (.ref o0), .val (.int p1), .val (.int p2), .val (.long q3), .second, .val (.long q5), .second, .val (.int (p1 - p2)), .unset, .unset] [(.long (256 : Int64)), (.long q5)])) (fun t k => X0.ldc2Long hx hown (mvT hZ (hw _ (List.mem_of_getElem? (i := 13) rfl))) (g := (mkF m 82 #[.val (.ref o0), .val (.int p1), .val (.int p2), .val (.long q3), .second, .val (.long q5), .second, .val (.int (p1 - p2)), .unset, .unset] [(.long q5)])) rfl (hb hby d2_82) _ k) ?_
            refine go _ (s₁.setTop (mkF m 86 #[.val (.ref o0), .val (.int p1), .val (.int p2), .val (.long q3), .second, .val (.long q5), .second, .val (.int (p1 - p2)), .unset, .unset] [(.long (q5 / (256 : Int64)))])) (fun t k => XS.ldiv X0.here hx rfl (hb hby d2_85) rfl (show (256 : Int64) ≠ 0 from by decide) k) ?_
            refine go _ (s₁.setTop (mkF m 89 #[.val (.ref o0), .val (.int p1), .val (.int p2), .val (.long q3), .second, .val (.long q5), .second, .val (.int (p1 - p2)), .unset, .unset] [(.long (256 : Int64)), (.long (q5 / (256 : Int64)))])) (fun t k => X0.ldc2Long hx hown (mvT hZ (hw _ (List.mem_of_getElem? (i := 13) rfl))) (g := (mkF m 86 #[.val (.ref o0), .val (.int p1), .val (.int p2), .val (.long q3), .second, .val (.long q5), .second, .val (.int (p1 - p2)), .unset, .unset] [(.long (q5 / (256 : Int64)))])) rfl (hb hby d2_86) _ k) ?_
            refine go _ (s₁.setTop (mkF m 90 #[.val (.ref o0), .val (.int p1), .val (.int p2), .val (.long q3), .second, .val (.long q5), .second, .val (.int (p1 - p2)), .unset, .unset] [(.long ((q5 / (256 : Int64)) % (256 : Int64)))])) (fun t k => own_lrem X0.here hx rfl (hb hby d2_89) rfl (show (256 : Int64) ≠ 0 from by decide) k) ?_
            refine go _ (s₁.setTop (mkF m 92 #[.val (.ref o0), .val (.int p1), .val (.int p2), .val (.long q3), .second, .val (.long q5), .second, .val (.int (p1 - p2)), .val (.long ((q5 / (256 : Int64)) % (256 : Int64))), .second] [])) (fun t k => XS.lstore X0.here hx rfl (hb hby d2_90) rfl (l' := #[.val (.ref o0), .val (.int p1), .val (.int p2), .val (.long q3), .second, .val (.long q5), .second, .val (.int (p1 - p2)), .val (.long ((q5 / (256 : Int64)) % (256 : Int64))), .second]) rfl k) ?_
            refine go _ (s₁.setTop (mkF m 103 #[.val (.ref o0), .val (.int p1), .val (.int p2), .val (.long q3), .second, .val (.long q5), .second, .val (.int (p1 - p2)), .val (.long ((q5 / (256 : Int64)) % (256 : Int64))), .second] [])) (fun t k => XS.goto X0.here hx rfl (pc0 := 92) (pc' := 103) rfl (hb hby d2_92) (by decide) (by decide) k) ?_
            refine go _ (s₁.setTop (mkF m 104 #[.val (.ref o0), .val (.int p1), .val (.int p2), .val (.long q3), .second, .val (.long q5), .second, .val (.int (p1 - p2)), .val (.long ((q5 / (256 : Int64)) % (256 : Int64))), .second] [(.ref o0)])) (fun t k => XS.aloadN X0.here hx rfl (hb hby d2_103) rfl rfl k) ?_
            refine go _ (s₁.setTop (mkF m 105 #[.val (.ref o0), .val (.int p1), .val (.int p2), .val (.long q3), .second, .val (.long q5), .second, .val (.int (p1 - p2)), .val (.long ((q5 / (256 : Int64)) % (256 : Int64))), .second] [(.int p1), (.ref o0)])) (fun t k => XS.iloadN X0.here hx rfl (hb hby d2_104) rfl k) ?_
            refine go _ (s₁.setTop (mkF m 106 #[.val (.ref o0), .val (.int p1), .val (.int p2), .val (.long q3), .second, .val (.long q5), .second, .val (.int (p1 - p2)), .val (.long ((q5 / (256 : Int64)) % (256 : Int64))), .second] [(.int (own_iv (f kn)))])) (fun t k => own_ldB X0 hx hZ e0 PA (i := kn) Pk Pk8 (g := (mkF m 105 #[.val (.ref o0), .val (.int p1), .val (.int p2), .val (.long q3), .second, .val (.long q5), .second, .val (.int (p1 - p2)), .val (.long ((q5 / (256 : Int64)) % (256 : Int64))), .second] [(.int p1), (.ref o0)])) rfl rfl (hb hby d2_105) _ k) ?_
            refine go _ (s₁.setTop (mkF m 109 #[.val (.ref o0), .val (.int p1), .val (.int p2), .val (.long q3), .second, .val (.long q5), .second, .val (.int (p1 - p2)), .val (.long ((q5 / (256 : Int64)) % (256 : Int64))), .second] [(.int (255 : Int32)), (.int (own_iv (f kn)))])) (fun t k => XS.sipush X0.here hx rfl (hb hby d2_106) k) ?_
            refine go _ (s₁.setTop (mkF m 110 #[.val (.ref o0), .val (.int p1), .val (.int p2), .val (.long q3), .second, .val (.long q5), .second, .val (.int (p1 - p2)), .val (.long ((q5 / (256 : Int64)) % (256 : Int64))), .second] [(.int ((own_iv (f kn)) &&& (255 : Int32)))])) (fun t k => XS.iand X0.here hx rfl (hb hby d2_109) rfl k) ?_
            refine go _ (s₁.setTop (mkF m 111 #[.val (.ref o0), .val (.int p1), .val (.int p2), .val (.long q3), .second, .val (.long q5), .second, .val (.int (p1 - p2)), .val (.long ((q5 / (256 : Int64)) % (256 : Int64))), .second] [(.long (((own_iv (f kn)) &&& (255 : Int32)).toInt64))])) (fun t k => XS.i2l X0.here hx rfl (hb hby d2_110) rfl k) ?_
            refine go _ (s₁.setTop (mkF m 113 #[.val (.ref o0), .val (.int p1), .val (.int p2), .val (.long q3), .second, .val (.long q5), .second, .val (.int (p1 - p2)), .val (.long ((q5 / (256 : Int64)) % (256 : Int64))), .second] [(.long ((q5 / (256 : Int64)) % (256 : Int64))), (.long (((own_iv (f kn)) &&& (255 : Int32)).toInt64))])) (fun t k => XS.lload X0.here hx rfl (hb hby d2_111) rfl k) ?_
            refine go _ (s₁.setTop (mkF m 114 #[.val (.ref o0), .val (.int p1), .val (.int p2), .val (.long q3), .second, .val (.long q5), .second, .val (.int (p1 - p2)), .val (.long ((q5 / (256 : Int64)) % (256 : Int64))), .second] [(.int (lcmpW (((own_iv (f kn)) &&& (255 : Int32)).toInt64) ((q5 / (256 : Int64)) % (256 : Int64))))])) (fun t k => XS.lcmp X0.here hx rfl (hb hby d2_113) rfl k) ?_
            have hc114 : (((own_iv (f kn)) &&& (255 : Int32)).toInt64) = ((q5 / (256 : Int64)) % (256 : Int64)) := by
              have hd : kn - i = 2 := (own_dist C4 (by decide)).mp hc77
              exact own_eqb (p1 := p1) (p2 := p2) (d := 2) H2 (by omega) (by omega) (by simpa using own_x2 q5 Hu)
            refine go _ (s₁.setTop (mkF m 117 #[.val (.ref o0), .val (.int p1), .val (.int p2), .val (.long q3), .second, .val (.long q5), .second, .val (.int (p1 - p2)), .val (.long ((q5 / (256 : Int64)) % (256 : Int64))), .second] [])) (fun t k => XS.ifNo X0.here hx rfl (hb hby d2_114) rfl ((if0 _ _).trans (teq ((lw_eq _ _).mpr hc114)).2) k) ?_
            refine go _ (s₁.setTop (mkF m 118 #[.val (.ref o0), .val (.int p1), .val (.int p2), .val (.long q3), .second, .val (.long q5), .second, .val (.int (p1 - p2)), .val (.long ((q5 / (256 : Int64)) % (256 : Int64))), .second] [(.int (1 : Int32))])) (fun t k => XS.iconst X0.here hx rfl (hb hby d2_117) k) ?_
            refine go _ (s₁.setTop (mkF m 122 #[.val (.ref o0), .val (.int p1), .val (.int p2), .val (.long q3), .second, .val (.long q5), .second, .val (.int (p1 - p2)), .val (.long ((q5 / (256 : Int64)) % (256 : Int64))), .second] [(.int (1 : Int32))])) (fun t k => XS.goto X0.here hx rfl (pc0 := 118) (pc' := 122) rfl (hb hby d2_118) (by decide) (by decide) k) ?_
            refine fin (some (.int (1 : Int32))) (mkF m 122 #[.val (.ref o0), .val (.int p1), .val (.int p2), .val (.long q3), .second, .val (.long q5), .second, .val (.int (p1 - p2)), .val (.long ((q5 / (256 : Int64)) % (256 : Int64))), .second] [(.int (1 : Int32))]) X0 (fun h => by cases h) (fun fs hr => retOut X0 hx (t := .boolean) hret rfl (Or.inl ⟨rfl, by simp, _, rfl⟩) (hb hby d2_122) hr) ?_ (by decide) (by decide)
            try rw [e0]
            exact ⟨rfl, N0, rfl⟩
          · refine go _ (s₁.setTop (mkF m 95 #[.val (.ref o0), .val (.int p1), .val (.int p2), .val (.long q3), .second, .val (.long q5), .second, .val (.int (p1 - p2)), .unset, .unset] [])) (fun t k => XS.icmpYes X0.here hx rfl (pc0 := 77) (pc' := 95) rfl (hb hby d2_77) rfl (feq hc77).2 (by decide) (by decide) k) ?_
            refine go _ (s₁.setTop (mkF m 97 #[.val (.ref o0), .val (.int p1), .val (.int p2), .val (.long q3), .second, .val (.long q5), .second, .val (.int (p1 - p2)), .unset, .unset] [(.long q5)])) (fun t k => XS.lload X0.here hx rfl (hb hby d2_95) rfl k) ?_
            refine go _ (s₁.setTop (mkF m 100 #[.val (.ref o0), .val (.int p1), .val (.int p2), .val (.long q3), .second, .val (.long q5), .second, .val (.int (p1 - p2)), .unset, .unset] [(.long (256 : Int64)), (.long q5)])) (fun t k => X0.ldc2Long hx hown (mvT hZ (hw _ (List.mem_of_getElem? (i := 13) rfl))) (g := (mkF m 97 #[.val (.ref o0), .val (.int p1), .val (.int p2), .val (.long q3), .second, .val (.long q5), .second, .val (.int (p1 - p2)), .unset, .unset] [(.long q5)])) rfl (hb hby d2_97) _ k) ?_
            refine go _ (s₁.setTop (mkF m 101 #[.val (.ref o0), .val (.int p1), .val (.int p2), .val (.long q3), .second, .val (.long q5), .second, .val (.int (p1 - p2)), .unset, .unset] [(.long (q5 % (256 : Int64)))])) (fun t k => own_lrem X0.here hx rfl (hb hby d2_100) rfl (show (256 : Int64) ≠ 0 from by decide) k) ?_
            refine go _ (s₁.setTop (mkF m 103 #[.val (.ref o0), .val (.int p1), .val (.int p2), .val (.long q3), .second, .val (.long q5), .second, .val (.int (p1 - p2)), .val (.long (q5 % (256 : Int64))), .second] [])) (fun t k => XS.lstore X0.here hx rfl (hb hby d2_101) rfl (l' := #[.val (.ref o0), .val (.int p1), .val (.int p2), .val (.long q3), .second, .val (.long q5), .second, .val (.int (p1 - p2)), .val (.long (q5 % (256 : Int64))), .second]) rfl k) ?_
            refine go _ (s₁.setTop (mkF m 104 #[.val (.ref o0), .val (.int p1), .val (.int p2), .val (.long q3), .second, .val (.long q5), .second, .val (.int (p1 - p2)), .val (.long (q5 % (256 : Int64))), .second] [(.ref o0)])) (fun t k => XS.aloadN X0.here hx rfl (hb hby d2_103) rfl rfl k) ?_
            refine go _ (s₁.setTop (mkF m 105 #[.val (.ref o0), .val (.int p1), .val (.int p2), .val (.long q3), .second, .val (.long q5), .second, .val (.int (p1 - p2)), .val (.long (q5 % (256 : Int64))), .second] [(.int p1), (.ref o0)])) (fun t k => XS.iloadN X0.here hx rfl (hb hby d2_104) rfl k) ?_
            refine go _ (s₁.setTop (mkF m 106 #[.val (.ref o0), .val (.int p1), .val (.int p2), .val (.long q3), .second, .val (.long q5), .second, .val (.int (p1 - p2)), .val (.long (q5 % (256 : Int64))), .second] [(.int (own_iv (f kn)))])) (fun t k => own_ldB X0 hx hZ e0 PA (i := kn) Pk Pk8 (g := (mkF m 105 #[.val (.ref o0), .val (.int p1), .val (.int p2), .val (.long q3), .second, .val (.long q5), .second, .val (.int (p1 - p2)), .val (.long (q5 % (256 : Int64))), .second] [(.int p1), (.ref o0)])) rfl rfl (hb hby d2_105) _ k) ?_
            refine go _ (s₁.setTop (mkF m 109 #[.val (.ref o0), .val (.int p1), .val (.int p2), .val (.long q3), .second, .val (.long q5), .second, .val (.int (p1 - p2)), .val (.long (q5 % (256 : Int64))), .second] [(.int (255 : Int32)), (.int (own_iv (f kn)))])) (fun t k => XS.sipush X0.here hx rfl (hb hby d2_106) k) ?_
            refine go _ (s₁.setTop (mkF m 110 #[.val (.ref o0), .val (.int p1), .val (.int p2), .val (.long q3), .second, .val (.long q5), .second, .val (.int (p1 - p2)), .val (.long (q5 % (256 : Int64))), .second] [(.int ((own_iv (f kn)) &&& (255 : Int32)))])) (fun t k => XS.iand X0.here hx rfl (hb hby d2_109) rfl k) ?_
            refine go _ (s₁.setTop (mkF m 111 #[.val (.ref o0), .val (.int p1), .val (.int p2), .val (.long q3), .second, .val (.long q5), .second, .val (.int (p1 - p2)), .val (.long (q5 % (256 : Int64))), .second] [(.long (((own_iv (f kn)) &&& (255 : Int32)).toInt64))])) (fun t k => XS.i2l X0.here hx rfl (hb hby d2_110) rfl k) ?_
            refine go _ (s₁.setTop (mkF m 113 #[.val (.ref o0), .val (.int p1), .val (.int p2), .val (.long q3), .second, .val (.long q5), .second, .val (.int (p1 - p2)), .val (.long (q5 % (256 : Int64))), .second] [(.long (q5 % (256 : Int64))), (.long (((own_iv (f kn)) &&& (255 : Int32)).toInt64))])) (fun t k => XS.lload X0.here hx rfl (hb hby d2_111) rfl k) ?_
            refine go _ (s₁.setTop (mkF m 114 #[.val (.ref o0), .val (.int p1), .val (.int p2), .val (.long q3), .second, .val (.long q5), .second, .val (.int (p1 - p2)), .val (.long (q5 % (256 : Int64))), .second] [(.int (lcmpW (((own_iv (f kn)) &&& (255 : Int32)).toInt64) (q5 % (256 : Int64))))])) (fun t k => XS.lcmp X0.here hx rfl (hb hby d2_113) rfl k) ?_
            have hc114 : (((own_iv (f kn)) &&& (255 : Int32)).toInt64) = (q5 % (256 : Int64)) := by
              have hd : kn - i = 3 := by
                have d0 : ¬ kn - i = 0 := fun q => hc39 ((own_dist C4 (n := 0) (by decide)).mpr q)
                have d1 : ¬ kn - i = 1 := fun q => hc56 ((own_dist C4 (n := 1) (by decide)).mpr q)
                have d2 : ¬ kn - i = 2 := fun q => hc77 ((own_dist C4 (n := 2) (by decide)).mpr q)
                omega
              exact own_eqb (p1 := p1) (p2 := p2) (d := 3) H2 (by omega) (by omega) (by simpa using own_x3 q5 Hu)
            refine go _ (s₁.setTop (mkF m 117 #[.val (.ref o0), .val (.int p1), .val (.int p2), .val (.long q3), .second, .val (.long q5), .second, .val (.int (p1 - p2)), .val (.long (q5 % (256 : Int64))), .second] [])) (fun t k => XS.ifNo X0.here hx rfl (hb hby d2_114) rfl ((if0 _ _).trans (teq ((lw_eq _ _).mpr hc114)).2) k) ?_
            refine go _ (s₁.setTop (mkF m 118 #[.val (.ref o0), .val (.int p1), .val (.int p2), .val (.long q3), .second, .val (.long q5), .second, .val (.int (p1 - p2)), .val (.long (q5 % (256 : Int64))), .second] [(.int (1 : Int32))])) (fun t k => XS.iconst X0.here hx rfl (hb hby d2_117) k) ?_
            refine go _ (s₁.setTop (mkF m 122 #[.val (.ref o0), .val (.int p1), .val (.int p2), .val (.long q3), .second, .val (.long q5), .second, .val (.int (p1 - p2)), .val (.long (q5 % (256 : Int64))), .second] [(.int (1 : Int32))])) (fun t k => XS.goto X0.here hx rfl (pc0 := 118) (pc' := 122) rfl (hb hby d2_118) (by decide) (by decide) k) ?_
            refine fin (some (.int (1 : Int32))) (mkF m 122 #[.val (.ref o0), .val (.int p1), .val (.int p2), .val (.long q3), .second, .val (.long q5), .second, .val (.int (p1 - p2)), .val (.long (q5 % (256 : Int64))), .second] [(.int (1 : Int32))]) X0 (fun h => by cases h) (fun fs hr => retOut X0 hx (t := .boolean) hret rfl (Or.inl ⟨rfl, by simp, _, rfl⟩) (hb hby d2_122) hr) ?_ (by decide) (by decide)
            try rw [e0]
            exact ⟨rfl, N0, rfl⟩
theorem own_ef0 (m : MethodId) (p0 : Int32) (p1 : Int32) (q2 : Int64) : entryFrame m #[(.int p0), (.int p1), (.long q2)] maxLocals = mkF m 0 #[.val (.int p0), .val (.int p1), .val (.long q2), .second, .unset, .unset, .unset, .unset, .unset] [] := by first | (simp [entryFrame, mkF, argsToLocals, Value.category, maxLocals]; done) | rfl
theorem own_pn0 : plainName "linewarden/service/Sha256PutWordPinLaw" = true := by first | (simp [plainName, overriddenIn]; done) | decide +kernel
theorem own_pd_0 : parseMethodDescriptor "([BII)V" = some ⟨[(.array .byte), .int, .int], none⟩ := by decide +kernel
theorem own_pd_1 : parseMethodDescriptor "([BIIJJ)Z" = some ⟨[(.array .byte), .int, .int, .long, .long], some .boolean⟩ := by decide +kernel
theorem own_pd_2 : parseMethodDescriptor "([BI)I" = some ⟨[(.array .byte), .int], some .int⟩ := by decide +kernel
def own_Q0 (Z : State) (p0 : Int32) (p1 : Int32) (q2 : Int64) (h0 : Heap) (n0 : Nat) (v : Option Value) (h : Heap) (L : List Loc) : Prop := v = some (.int 1) ∧ Fr n0 L
set_option maxRecDepth 65536 in
set_option maxHeartbeats 40000000 in
theorem rm0 (l : Launch) (Z : State) (a0 : Array Value) (hw : ∀ d ∈ tables_1, d.before a0 Z = true) (ws : List Jvm.Cond) (p0 : Int32) (p1 : Int32) (q2 : Int64) (h0 : Heap) (n0 : Nat) (Z0 : n0 ≤ h0.size) :
    MetFree l x (head1 (Jvm.Cond.code x code maxLocals ret :: ws) room_1) (fun a U => a = #[(.int p0), (.int p1), (.long q2)] ∧ Z.Warmed39 U.vm ∧ U.heap = h0) (fun _ _ _ _ _ => True) (fun _ U o U' => ∃ v L, o = .returned v ∧ own_Q0 Z p0 p1 q2 h0 n0 v U'.heap L ∧ FrameEnd U o U' L room_1.cells room_1.slots) := by
  refine own_metfree (Q := own_Q0 Z p0 p1 q2 h0 n0) (plainFor_of_name own_pn0) ?_
  intro p e s m below meth c s₁ X0 hx hby hml hret hown hnm hZ e0 G go fin
  have N0 := Fr.nil n0
  refine go _ (s₁.setTop (mkF m 0 #[.val (.int p0), .val (.int p1), .val (.long q2), .second, .unset, .unset, .unset, .unset, .unset] [])) (fun t k => castTop (own_ef0 m p0 p1 q2) k) ?_
  refine go _ (s₁.setTop (mkF m 1 #[.val (.int p0), .val (.int p1), .val (.long q2), .second, .unset, .unset, .unset, .unset, .unset] [(.int p0)])) (fun t k => XS.iloadN X0.here hx rfl (hb hby at_0) rfl k) ?_
  refine go _ (s₁.setTop (mkF m 3 #[.val (.int p0), .val (.int p1), .val (.long q2), .second, .unset, .unset, .unset, .unset, .unset] [(.int (2147483647 : Int32)), (.int p0)])) (fun t k => X0.ldcInt hx hown (mvT hZ (hw _ (List.mem_of_getElem? (i := 0) rfl))) (g := (mkF m 1 #[.val (.int p0), .val (.int p1), .val (.long q2), .second, .unset, .unset, .unset, .unset, .unset] [(.int p0)])) rfl (hb hby at_1) _ k) ?_
  refine go _ (s₁.setTop (mkF m 4 #[.val (.int p0), .val (.int p1), .val (.long q2), .second, .unset, .unset, .unset, .unset, .unset] [(.int (p0 &&& (2147483647 : Int32)))])) (fun t k => XS.iand X0.here hx rfl (hb hby at_3) rfl k) ?_
  refine go _ (s₁.setTop (mkF m 5 #[.val (.int p0), .val (.int p1), .val (.long q2), .second, .unset, .unset, .unset, .unset, .unset] [(.int (5 : Int32)), (.int (p0 &&& (2147483647 : Int32)))])) (fun t k => XS.iconst X0.here hx rfl (hb hby at_4) k) ?_
  refine go _ (s₁.setTop (mkF m 6 #[.val (.int p0), .val (.int p1), .val (.long q2), .second, .unset, .unset, .unset, .unset, .unset] [(.int ((p0 &&& (2147483647 : Int32)) % (5 : Int32)))])) (fun t k => iremM X0 hx rfl (hb hby at_5) rfl (show (5 : Int32) ≠ 0 from by decide) k) ?_
  generalize hv_vo : ((p0 &&& (2147483647 : Int32)) % (5 : Int32)) = vo
  obtain ⟨i, hi, hi4⟩ := own_off p0
  rw [hv_vo] at hi
  refine go _ (s₁.setTop (mkF m 8 #[.val (.int p0), .val (.int p1), .val (.long q2), .second, .val (.int vo), .unset, .unset, .unset, .unset] [])) (fun t k => XS.istore X0.here hx rfl (hb hby at_6) rfl (l' := #[.val (.int p0), .val (.int p1), .val (.long q2), .second, .val (.int vo), .unset, .unset, .unset, .unset]) rfl k) ?_
  refine go _ (s₁.setTop (mkF m 10 #[.val (.int p0), .val (.int p1), .val (.long q2), .second, .val (.int vo), .unset, .unset, .unset, .unset] [(.int (8 : Int32))])) (fun t k => XS.bipush X0.here hx rfl (hb hby at_8) k) ?_
  obtain ⟨T1, h1, kk1, X1, e1, E1, Ar1, Ax1, st1⟩ := newPE X0 hx hZ (hw _ (List.mem_of_getElem? (i := 1) rfl)) e0 (g := (mkF m 10 #[.val (.int p0), .val (.int p1), .val (.long q2), .second, .val (.int vo), .unset, .unset, .unset, .unset] [(.int (8 : Int32))])) rfl (hb hby at_10) rfl (by decide) (cap := 8) (by decide) (by decide) (by decide) (by decide) (ad := "[B") (by first | rfl | decide)
  obtain ⟨b1, gb1⟩ : ∃ z, z = h0.size := ⟨_, rfl⟩
  rw [← gb1] at Ar1 Ax1 st1
  have g_b1 : n0 ≤ b1 := Nat.le_trans Z0 (Nat.le_of_eq gb1.symm)
  have sz_b1 : h0.size ≤ b1 := (Nat.le_of_eq gb1.symm)
  have Av1 : own_Av Z h1 b1 .byte 8 (fun _ => (.int 0)) := own_Av.new Ar1 (by decide) (by decide)
  refine go _ (T1.setTop (mkF m 12 #[.val (.int p0), .val (.int p1), .val (.long q2), .second, .val (.int vo), .unset, .unset, .unset, .unset] [(.ref b1)])) st1 ?_
  refine go _ (T1.setTop (mkF m 14 #[.val (.int p0), .val (.int p1), .val (.long q2), .second, .val (.int vo), .val (.ref b1), .unset, .unset, .unset] [])) (fun t k => XS.astore X1.here hx rfl (hb hby at_12) rfl rfl (l' := #[.val (.int p0), .val (.int p1), .val (.long q2), .second, .val (.int vo), .val (.ref b1), .unset, .unset, .unset]) rfl k) ?_
  refine go _ (T1.setTop (mkF m 16 #[.val (.int p0), .val (.int p1), .val (.long q2), .second, .val (.int vo), .val (.ref b1), .unset, .unset, .unset] [(.ref b1)])) (fun t k => XS.aload X1.here hx rfl (hb hby at_14) rfl rfl k) ?_
  refine go _ (T1.setTop (mkF m 17 #[.val (.int p0), .val (.int p1), .val (.long q2), .second, .val (.int vo), .val (.ref b1), .unset, .unset, .unset] [(.int (0 : Int32)), (.ref b1)])) (fun t k => XS.iconst X1.here hx rfl (hb hby at_16) k) ?_
  refine go _ (T1.setTop (mkF m 18 #[.val (.int p0), .val (.int p1), .val (.long q2), .second, .val (.int vo), .val (.ref b1), .unset, .unset, .unset] [(.long q2), (.int (0 : Int32)), (.ref b1)])) (fun t k => XS.lloadN X1.here hx rfl (hb hby at_17) rfl k) ?_
  refine go _ (T1.setTop (mkF m 19 #[.val (.int p0), .val (.int p1), .val (.long q2), .second, .val (.int vo), .val (.ref b1), .unset, .unset, .unset] [(.int (q2.toInt32)), (.int (0 : Int32)), (.ref b1)])) (fun t k => XS.l2i X1.here hx rfl (hb hby at_18) rfl k) ?_
  refine go _ (T1.setTop (mkF m 20 #[.val (.int p0), .val (.int p1), .val (.long q2), .second, .val (.int vo), .val (.ref b1), .unset, .unset, .unset] [(.int ((q2.toInt32).toInt8.toInt32)), (.int (0 : Int32)), (.ref b1)])) (fun t k => XS.i2b X1.here hx rfl (hb hby at_19) rfl k) ?_
  obtain ⟨T2, h2, X2, e2, W2, Av2, st2⟩ := own_stB X1 hx hZ e1 Av1 (i := 0) (by decide) (by decide) (g := (mkF m 20 #[.val (.int p0), .val (.int p1), .val (.long q2), .second, .val (.int vo), .val (.ref b1), .unset, .unset, .unset] [(.int ((q2.toInt32).toInt8.toInt32)), (.int (0 : Int32)), (.ref b1)])) rfl rfl (hb hby at_20)
  rw [own_nar8] at Av2
  have N2 := Fr.snoc X2 N0 g_b1
  refine go _ (T2.setTop (mkF m 21 #[.val (.int p0), .val (.int p1), .val (.long q2), .second, .val (.int vo), .val (.ref b1), .unset, .unset, .unset] [])) st2 ?_
  refine go _ (T2.setTop (mkF m 23 #[.val (.int p0), .val (.int p1), .val (.long q2), .second, .val (.int vo), .val (.ref b1), .unset, .unset, .unset] [(.ref b1)])) (fun t k => XS.aload X2.here hx rfl (hb hby at_21) rfl rfl k) ?_
  refine go _ (T2.setTop (mkF m 24 #[.val (.int p0), .val (.int p1), .val (.long q2), .second, .val (.int vo), .val (.ref b1), .unset, .unset, .unset] [(.int (1 : Int32)), (.ref b1)])) (fun t k => XS.iconst X2.here hx rfl (hb hby at_23) k) ?_
  refine go _ (T2.setTop (mkF m 25 #[.val (.int p0), .val (.int p1), .val (.long q2), .second, .val (.int vo), .val (.ref b1), .unset, .unset, .unset] [(.long q2), (.int (1 : Int32)), (.ref b1)])) (fun t k => XS.lloadN X2.here hx rfl (hb hby at_24) rfl k) ?_
  refine go _ (T2.setTop (mkF m 27 #[.val (.int p0), .val (.int p1), .val (.long q2), .second, .val (.int vo), .val (.ref b1), .unset, .unset, .unset] [(.int (8 : Int32)), (.long q2), (.int (1 : Int32)), (.ref b1)])) (fun t k => XS.bipush X2.here hx rfl (hb hby at_25) k) ?_
  refine go _ (T2.setTop (mkF m 28 #[.val (.int p0), .val (.int p1), .val (.long q2), .second, .val (.int vo), .val (.ref b1), .unset, .unset, .unset] [(.long ((q2.toUInt64 >>> ((8 : Int32) &&& 0x3f).toInt64.toUInt64).toInt64)), (.int (1 : Int32)), (.ref b1)])) (fun t k => XS.lushr X2.here hx rfl (hb hby at_27) rfl k) ?_
  refine go _ (T2.setTop (mkF m 29 #[.val (.int p0), .val (.int p1), .val (.long q2), .second, .val (.int vo), .val (.ref b1), .unset, .unset, .unset] [(.int (((q2.toUInt64 >>> ((8 : Int32) &&& 0x3f).toInt64.toUInt64).toInt64).toInt32)), (.int (1 : Int32)), (.ref b1)])) (fun t k => XS.l2i X2.here hx rfl (hb hby at_28) rfl k) ?_
  refine go _ (T2.setTop (mkF m 30 #[.val (.int p0), .val (.int p1), .val (.long q2), .second, .val (.int vo), .val (.ref b1), .unset, .unset, .unset] [(.int ((((q2.toUInt64 >>> ((8 : Int32) &&& 0x3f).toInt64.toUInt64).toInt64).toInt32).toInt8.toInt32)), (.int (1 : Int32)), (.ref b1)])) (fun t k => XS.i2b X2.here hx rfl (hb hby at_29) rfl k) ?_
  obtain ⟨T3, h3, X3, e3, W3, Av3, st3⟩ := own_stB X2 hx hZ e2 Av2 (i := 1) (by decide) (by decide) (g := (mkF m 30 #[.val (.int p0), .val (.int p1), .val (.long q2), .second, .val (.int vo), .val (.ref b1), .unset, .unset, .unset] [(.int ((((q2.toUInt64 >>> ((8 : Int32) &&& 0x3f).toInt64.toUInt64).toInt64).toInt32).toInt8.toInt32)), (.int (1 : Int32)), (.ref b1)])) rfl rfl (hb hby at_30)
  rw [own_nar8] at Av3
  have N3 := Fr.snoc X3 N2 g_b1
  refine go _ (T3.setTop (mkF m 31 #[.val (.int p0), .val (.int p1), .val (.long q2), .second, .val (.int vo), .val (.ref b1), .unset, .unset, .unset] [])) st3 ?_
  refine go _ (T3.setTop (mkF m 33 #[.val (.int p0), .val (.int p1), .val (.long q2), .second, .val (.int vo), .val (.ref b1), .unset, .unset, .unset] [(.ref b1)])) (fun t k => XS.aload X3.here hx rfl (hb hby at_31) rfl rfl k) ?_
  refine go _ (T3.setTop (mkF m 34 #[.val (.int p0), .val (.int p1), .val (.long q2), .second, .val (.int vo), .val (.ref b1), .unset, .unset, .unset] [(.int (2 : Int32)), (.ref b1)])) (fun t k => XS.iconst X3.here hx rfl (hb hby at_33) k) ?_
  refine go _ (T3.setTop (mkF m 35 #[.val (.int p0), .val (.int p1), .val (.long q2), .second, .val (.int vo), .val (.ref b1), .unset, .unset, .unset] [(.long q2), (.int (2 : Int32)), (.ref b1)])) (fun t k => XS.lloadN X3.here hx rfl (hb hby at_34) rfl k) ?_
  refine go _ (T3.setTop (mkF m 37 #[.val (.int p0), .val (.int p1), .val (.long q2), .second, .val (.int vo), .val (.ref b1), .unset, .unset, .unset] [(.int (16 : Int32)), (.long q2), (.int (2 : Int32)), (.ref b1)])) (fun t k => XS.bipush X3.here hx rfl (hb hby at_35) k) ?_
  refine go _ (T3.setTop (mkF m 38 #[.val (.int p0), .val (.int p1), .val (.long q2), .second, .val (.int vo), .val (.ref b1), .unset, .unset, .unset] [(.long ((q2.toUInt64 >>> ((16 : Int32) &&& 0x3f).toInt64.toUInt64).toInt64)), (.int (2 : Int32)), (.ref b1)])) (fun t k => XS.lushr X3.here hx rfl (hb hby at_37) rfl k) ?_
  refine go _ (T3.setTop (mkF m 39 #[.val (.int p0), .val (.int p1), .val (.long q2), .second, .val (.int vo), .val (.ref b1), .unset, .unset, .unset] [(.int (((q2.toUInt64 >>> ((16 : Int32) &&& 0x3f).toInt64.toUInt64).toInt64).toInt32)), (.int (2 : Int32)), (.ref b1)])) (fun t k => XS.l2i X3.here hx rfl (hb hby at_38) rfl k) ?_
  refine go _ (T3.setTop (mkF m 40 #[.val (.int p0), .val (.int p1), .val (.long q2), .second, .val (.int vo), .val (.ref b1), .unset, .unset, .unset] [(.int ((((q2.toUInt64 >>> ((16 : Int32) &&& 0x3f).toInt64.toUInt64).toInt64).toInt32).toInt8.toInt32)), (.int (2 : Int32)), (.ref b1)])) (fun t k => XS.i2b X3.here hx rfl (hb hby at_39) rfl k) ?_
  obtain ⟨T4, h4, X4, e4, W4, Av4, st4⟩ := own_stB X3 hx hZ e3 Av3 (i := 2) (by decide) (by decide) (g := (mkF m 40 #[.val (.int p0), .val (.int p1), .val (.long q2), .second, .val (.int vo), .val (.ref b1), .unset, .unset, .unset] [(.int ((((q2.toUInt64 >>> ((16 : Int32) &&& 0x3f).toInt64.toUInt64).toInt64).toInt32).toInt8.toInt32)), (.int (2 : Int32)), (.ref b1)])) rfl rfl (hb hby at_40)
  rw [own_nar8] at Av4
  have N4 := Fr.snoc X4 N3 g_b1
  refine go _ (T4.setTop (mkF m 41 #[.val (.int p0), .val (.int p1), .val (.long q2), .second, .val (.int vo), .val (.ref b1), .unset, .unset, .unset] [])) st4 ?_
  refine go _ (T4.setTop (mkF m 43 #[.val (.int p0), .val (.int p1), .val (.long q2), .second, .val (.int vo), .val (.ref b1), .unset, .unset, .unset] [(.ref b1)])) (fun t k => XS.aload X4.here hx rfl (hb hby at_41) rfl rfl k) ?_
  refine go _ (T4.setTop (mkF m 44 #[.val (.int p0), .val (.int p1), .val (.long q2), .second, .val (.int vo), .val (.ref b1), .unset, .unset, .unset] [(.int (3 : Int32)), (.ref b1)])) (fun t k => XS.iconst X4.here hx rfl (hb hby at_43) k) ?_
  refine go _ (T4.setTop (mkF m 45 #[.val (.int p0), .val (.int p1), .val (.long q2), .second, .val (.int vo), .val (.ref b1), .unset, .unset, .unset] [(.long q2), (.int (3 : Int32)), (.ref b1)])) (fun t k => XS.lloadN X4.here hx rfl (hb hby at_44) rfl k) ?_
  refine go _ (T4.setTop (mkF m 47 #[.val (.int p0), .val (.int p1), .val (.long q2), .second, .val (.int vo), .val (.ref b1), .unset, .unset, .unset] [(.int (24 : Int32)), (.long q2), (.int (3 : Int32)), (.ref b1)])) (fun t k => XS.bipush X4.here hx rfl (hb hby at_45) k) ?_
  refine go _ (T4.setTop (mkF m 48 #[.val (.int p0), .val (.int p1), .val (.long q2), .second, .val (.int vo), .val (.ref b1), .unset, .unset, .unset] [(.long ((q2.toUInt64 >>> ((24 : Int32) &&& 0x3f).toInt64.toUInt64).toInt64)), (.int (3 : Int32)), (.ref b1)])) (fun t k => XS.lushr X4.here hx rfl (hb hby at_47) rfl k) ?_
  refine go _ (T4.setTop (mkF m 49 #[.val (.int p0), .val (.int p1), .val (.long q2), .second, .val (.int vo), .val (.ref b1), .unset, .unset, .unset] [(.int (((q2.toUInt64 >>> ((24 : Int32) &&& 0x3f).toInt64.toUInt64).toInt64).toInt32)), (.int (3 : Int32)), (.ref b1)])) (fun t k => XS.l2i X4.here hx rfl (hb hby at_48) rfl k) ?_
  refine go _ (T4.setTop (mkF m 50 #[.val (.int p0), .val (.int p1), .val (.long q2), .second, .val (.int vo), .val (.ref b1), .unset, .unset, .unset] [(.int ((((q2.toUInt64 >>> ((24 : Int32) &&& 0x3f).toInt64.toUInt64).toInt64).toInt32).toInt8.toInt32)), (.int (3 : Int32)), (.ref b1)])) (fun t k => XS.i2b X4.here hx rfl (hb hby at_49) rfl k) ?_
  obtain ⟨T5, h5, X5, e5, W5, Av5, st5⟩ := own_stB X4 hx hZ e4 Av4 (i := 3) (by decide) (by decide) (g := (mkF m 50 #[.val (.int p0), .val (.int p1), .val (.long q2), .second, .val (.int vo), .val (.ref b1), .unset, .unset, .unset] [(.int ((((q2.toUInt64 >>> ((24 : Int32) &&& 0x3f).toInt64.toUInt64).toInt64).toInt32).toInt8.toInt32)), (.int (3 : Int32)), (.ref b1)])) rfl rfl (hb hby at_50)
  rw [own_nar8] at Av5
  have N5 := Fr.snoc X5 N4 g_b1
  refine go _ (T5.setTop (mkF m 51 #[.val (.int p0), .val (.int p1), .val (.long q2), .second, .val (.int vo), .val (.ref b1), .unset, .unset, .unset] [])) st5 ?_
  refine go _ (T5.setTop (mkF m 53 #[.val (.int p0), .val (.int p1), .val (.long q2), .second, .val (.int vo), .val (.ref b1), .unset, .unset, .unset] [(.ref b1)])) (fun t k => XS.aload X5.here hx rfl (hb hby at_51) rfl rfl k) ?_
  refine go _ (T5.setTop (mkF m 54 #[.val (.int p0), .val (.int p1), .val (.long q2), .second, .val (.int vo), .val (.ref b1), .unset, .unset, .unset] [(.int (4 : Int32)), (.ref b1)])) (fun t k => XS.iconst X5.here hx rfl (hb hby at_53) k) ?_
  refine go _ (T5.setTop (mkF m 55 #[.val (.int p0), .val (.int p1), .val (.long q2), .second, .val (.int vo), .val (.ref b1), .unset, .unset, .unset] [(.long q2), (.int (4 : Int32)), (.ref b1)])) (fun t k => XS.lloadN X5.here hx rfl (hb hby at_54) rfl k) ?_
  refine go _ (T5.setTop (mkF m 57 #[.val (.int p0), .val (.int p1), .val (.long q2), .second, .val (.int vo), .val (.ref b1), .unset, .unset, .unset] [(.int (32 : Int32)), (.long q2), (.int (4 : Int32)), (.ref b1)])) (fun t k => XS.bipush X5.here hx rfl (hb hby at_55) k) ?_
  refine go _ (T5.setTop (mkF m 58 #[.val (.int p0), .val (.int p1), .val (.long q2), .second, .val (.int vo), .val (.ref b1), .unset, .unset, .unset] [(.long ((q2.toUInt64 >>> ((32 : Int32) &&& 0x3f).toInt64.toUInt64).toInt64)), (.int (4 : Int32)), (.ref b1)])) (fun t k => XS.lushr X5.here hx rfl (hb hby at_57) rfl k) ?_
  refine go _ (T5.setTop (mkF m 59 #[.val (.int p0), .val (.int p1), .val (.long q2), .second, .val (.int vo), .val (.ref b1), .unset, .unset, .unset] [(.int (((q2.toUInt64 >>> ((32 : Int32) &&& 0x3f).toInt64.toUInt64).toInt64).toInt32)), (.int (4 : Int32)), (.ref b1)])) (fun t k => XS.l2i X5.here hx rfl (hb hby at_58) rfl k) ?_
  refine go _ (T5.setTop (mkF m 60 #[.val (.int p0), .val (.int p1), .val (.long q2), .second, .val (.int vo), .val (.ref b1), .unset, .unset, .unset] [(.int ((((q2.toUInt64 >>> ((32 : Int32) &&& 0x3f).toInt64.toUInt64).toInt64).toInt32).toInt8.toInt32)), (.int (4 : Int32)), (.ref b1)])) (fun t k => XS.i2b X5.here hx rfl (hb hby at_59) rfl k) ?_
  obtain ⟨T6, h6, X6, e6, W6, Av6, st6⟩ := own_stB X5 hx hZ e5 Av5 (i := 4) (by decide) (by decide) (g := (mkF m 60 #[.val (.int p0), .val (.int p1), .val (.long q2), .second, .val (.int vo), .val (.ref b1), .unset, .unset, .unset] [(.int ((((q2.toUInt64 >>> ((32 : Int32) &&& 0x3f).toInt64.toUInt64).toInt64).toInt32).toInt8.toInt32)), (.int (4 : Int32)), (.ref b1)])) rfl rfl (hb hby at_60)
  rw [own_nar8] at Av6
  have N6 := Fr.snoc X6 N5 g_b1
  refine go _ (T6.setTop (mkF m 61 #[.val (.int p0), .val (.int p1), .val (.long q2), .second, .val (.int vo), .val (.ref b1), .unset, .unset, .unset] [])) st6 ?_
  refine go _ (T6.setTop (mkF m 63 #[.val (.int p0), .val (.int p1), .val (.long q2), .second, .val (.int vo), .val (.ref b1), .unset, .unset, .unset] [(.ref b1)])) (fun t k => XS.aload X6.here hx rfl (hb hby at_61) rfl rfl k) ?_
  refine go _ (T6.setTop (mkF m 64 #[.val (.int p0), .val (.int p1), .val (.long q2), .second, .val (.int vo), .val (.ref b1), .unset, .unset, .unset] [(.int (5 : Int32)), (.ref b1)])) (fun t k => XS.iconst X6.here hx rfl (hb hby at_63) k) ?_
  refine go _ (T6.setTop (mkF m 65 #[.val (.int p0), .val (.int p1), .val (.long q2), .second, .val (.int vo), .val (.ref b1), .unset, .unset, .unset] [(.long q2), (.int (5 : Int32)), (.ref b1)])) (fun t k => XS.lloadN X6.here hx rfl (hb hby at_64) rfl k) ?_
  refine go _ (T6.setTop (mkF m 67 #[.val (.int p0), .val (.int p1), .val (.long q2), .second, .val (.int vo), .val (.ref b1), .unset, .unset, .unset] [(.int (40 : Int32)), (.long q2), (.int (5 : Int32)), (.ref b1)])) (fun t k => XS.bipush X6.here hx rfl (hb hby at_65) k) ?_
  refine go _ (T6.setTop (mkF m 68 #[.val (.int p0), .val (.int p1), .val (.long q2), .second, .val (.int vo), .val (.ref b1), .unset, .unset, .unset] [(.long ((q2.toUInt64 >>> ((40 : Int32) &&& 0x3f).toInt64.toUInt64).toInt64)), (.int (5 : Int32)), (.ref b1)])) (fun t k => XS.lushr X6.here hx rfl (hb hby at_67) rfl k) ?_
  refine go _ (T6.setTop (mkF m 69 #[.val (.int p0), .val (.int p1), .val (.long q2), .second, .val (.int vo), .val (.ref b1), .unset, .unset, .unset] [(.int (((q2.toUInt64 >>> ((40 : Int32) &&& 0x3f).toInt64.toUInt64).toInt64).toInt32)), (.int (5 : Int32)), (.ref b1)])) (fun t k => XS.l2i X6.here hx rfl (hb hby at_68) rfl k) ?_
  refine go _ (T6.setTop (mkF m 70 #[.val (.int p0), .val (.int p1), .val (.long q2), .second, .val (.int vo), .val (.ref b1), .unset, .unset, .unset] [(.int ((((q2.toUInt64 >>> ((40 : Int32) &&& 0x3f).toInt64.toUInt64).toInt64).toInt32).toInt8.toInt32)), (.int (5 : Int32)), (.ref b1)])) (fun t k => XS.i2b X6.here hx rfl (hb hby at_69) rfl k) ?_
  obtain ⟨T7, h7, X7, e7, W7, Av7, st7⟩ := own_stB X6 hx hZ e6 Av6 (i := 5) (by decide) (by decide) (g := (mkF m 70 #[.val (.int p0), .val (.int p1), .val (.long q2), .second, .val (.int vo), .val (.ref b1), .unset, .unset, .unset] [(.int ((((q2.toUInt64 >>> ((40 : Int32) &&& 0x3f).toInt64.toUInt64).toInt64).toInt32).toInt8.toInt32)), (.int (5 : Int32)), (.ref b1)])) rfl rfl (hb hby at_70)
  rw [own_nar8] at Av7
  have N7 := Fr.snoc X7 N6 g_b1
  refine go _ (T7.setTop (mkF m 71 #[.val (.int p0), .val (.int p1), .val (.long q2), .second, .val (.int vo), .val (.ref b1), .unset, .unset, .unset] [])) st7 ?_
  refine go _ (T7.setTop (mkF m 73 #[.val (.int p0), .val (.int p1), .val (.long q2), .second, .val (.int vo), .val (.ref b1), .unset, .unset, .unset] [(.ref b1)])) (fun t k => XS.aload X7.here hx rfl (hb hby at_71) rfl rfl k) ?_
  refine go _ (T7.setTop (mkF m 75 #[.val (.int p0), .val (.int p1), .val (.long q2), .second, .val (.int vo), .val (.ref b1), .unset, .unset, .unset] [(.int (6 : Int32)), (.ref b1)])) (fun t k => XS.bipush X7.here hx rfl (hb hby at_73) k) ?_
  refine go _ (T7.setTop (mkF m 76 #[.val (.int p0), .val (.int p1), .val (.long q2), .second, .val (.int vo), .val (.ref b1), .unset, .unset, .unset] [(.long q2), (.int (6 : Int32)), (.ref b1)])) (fun t k => XS.lloadN X7.here hx rfl (hb hby at_75) rfl k) ?_
  refine go _ (T7.setTop (mkF m 78 #[.val (.int p0), .val (.int p1), .val (.long q2), .second, .val (.int vo), .val (.ref b1), .unset, .unset, .unset] [(.int (48 : Int32)), (.long q2), (.int (6 : Int32)), (.ref b1)])) (fun t k => XS.bipush X7.here hx rfl (hb hby at_76) k) ?_
  refine go _ (T7.setTop (mkF m 79 #[.val (.int p0), .val (.int p1), .val (.long q2), .second, .val (.int vo), .val (.ref b1), .unset, .unset, .unset] [(.long ((q2.toUInt64 >>> ((48 : Int32) &&& 0x3f).toInt64.toUInt64).toInt64)), (.int (6 : Int32)), (.ref b1)])) (fun t k => XS.lushr X7.here hx rfl (hb hby at_78) rfl k) ?_
  refine go _ (T7.setTop (mkF m 80 #[.val (.int p0), .val (.int p1), .val (.long q2), .second, .val (.int vo), .val (.ref b1), .unset, .unset, .unset] [(.int (((q2.toUInt64 >>> ((48 : Int32) &&& 0x3f).toInt64.toUInt64).toInt64).toInt32)), (.int (6 : Int32)), (.ref b1)])) (fun t k => XS.l2i X7.here hx rfl (hb hby at_79) rfl k) ?_
  refine go _ (T7.setTop (mkF m 81 #[.val (.int p0), .val (.int p1), .val (.long q2), .second, .val (.int vo), .val (.ref b1), .unset, .unset, .unset] [(.int ((((q2.toUInt64 >>> ((48 : Int32) &&& 0x3f).toInt64.toUInt64).toInt64).toInt32).toInt8.toInt32)), (.int (6 : Int32)), (.ref b1)])) (fun t k => XS.i2b X7.here hx rfl (hb hby at_80) rfl k) ?_
  obtain ⟨T8, h8, X8, e8, W8, Av8, st8⟩ := own_stB X7 hx hZ e7 Av7 (i := 6) (by decide) (by decide) (g := (mkF m 81 #[.val (.int p0), .val (.int p1), .val (.long q2), .second, .val (.int vo), .val (.ref b1), .unset, .unset, .unset] [(.int ((((q2.toUInt64 >>> ((48 : Int32) &&& 0x3f).toInt64.toUInt64).toInt64).toInt32).toInt8.toInt32)), (.int (6 : Int32)), (.ref b1)])) rfl rfl (hb hby at_81)
  rw [own_nar8] at Av8
  have N8 := Fr.snoc X8 N7 g_b1
  refine go _ (T8.setTop (mkF m 82 #[.val (.int p0), .val (.int p1), .val (.long q2), .second, .val (.int vo), .val (.ref b1), .unset, .unset, .unset] [])) st8 ?_
  refine go _ (T8.setTop (mkF m 84 #[.val (.int p0), .val (.int p1), .val (.long q2), .second, .val (.int vo), .val (.ref b1), .unset, .unset, .unset] [(.ref b1)])) (fun t k => XS.aload X8.here hx rfl (hb hby at_82) rfl rfl k) ?_
  refine go _ (T8.setTop (mkF m 86 #[.val (.int p0), .val (.int p1), .val (.long q2), .second, .val (.int vo), .val (.ref b1), .unset, .unset, .unset] [(.int (7 : Int32)), (.ref b1)])) (fun t k => XS.bipush X8.here hx rfl (hb hby at_84) k) ?_
  refine go _ (T8.setTop (mkF m 87 #[.val (.int p0), .val (.int p1), .val (.long q2), .second, .val (.int vo), .val (.ref b1), .unset, .unset, .unset] [(.long q2), (.int (7 : Int32)), (.ref b1)])) (fun t k => XS.lloadN X8.here hx rfl (hb hby at_86) rfl k) ?_
  refine go _ (T8.setTop (mkF m 89 #[.val (.int p0), .val (.int p1), .val (.long q2), .second, .val (.int vo), .val (.ref b1), .unset, .unset, .unset] [(.int (56 : Int32)), (.long q2), (.int (7 : Int32)), (.ref b1)])) (fun t k => XS.bipush X8.here hx rfl (hb hby at_87) k) ?_
  refine go _ (T8.setTop (mkF m 90 #[.val (.int p0), .val (.int p1), .val (.long q2), .second, .val (.int vo), .val (.ref b1), .unset, .unset, .unset] [(.long ((q2.toUInt64 >>> ((56 : Int32) &&& 0x3f).toInt64.toUInt64).toInt64)), (.int (7 : Int32)), (.ref b1)])) (fun t k => XS.lushr X8.here hx rfl (hb hby at_89) rfl k) ?_
  refine go _ (T8.setTop (mkF m 91 #[.val (.int p0), .val (.int p1), .val (.long q2), .second, .val (.int vo), .val (.ref b1), .unset, .unset, .unset] [(.int (((q2.toUInt64 >>> ((56 : Int32) &&& 0x3f).toInt64.toUInt64).toInt64).toInt32)), (.int (7 : Int32)), (.ref b1)])) (fun t k => XS.l2i X8.here hx rfl (hb hby at_90) rfl k) ?_
  refine go _ (T8.setTop (mkF m 92 #[.val (.int p0), .val (.int p1), .val (.long q2), .second, .val (.int vo), .val (.ref b1), .unset, .unset, .unset] [(.int ((((q2.toUInt64 >>> ((56 : Int32) &&& 0x3f).toInt64.toUInt64).toInt64).toInt32).toInt8.toInt32)), (.int (7 : Int32)), (.ref b1)])) (fun t k => XS.i2b X8.here hx rfl (hb hby at_91) rfl k) ?_
  obtain ⟨T9, h9, X9, e9, W9, Av9, st9⟩ := own_stB X8 hx hZ e8 Av8 (i := 7) (by decide) (by decide) (g := (mkF m 92 #[.val (.int p0), .val (.int p1), .val (.long q2), .second, .val (.int vo), .val (.ref b1), .unset, .unset, .unset] [(.int ((((q2.toUInt64 >>> ((56 : Int32) &&& 0x3f).toInt64.toUInt64).toInt64).toInt32).toInt8.toInt32)), (.int (7 : Int32)), (.ref b1)])) rfl rfl (hb hby at_92)
  rw [own_nar8] at Av9
  have N9 := Fr.snoc X9 N8 g_b1
  refine go _ (T9.setTop (mkF m 93 #[.val (.int p0), .val (.int p1), .val (.long q2), .second, .val (.int vo), .val (.ref b1), .unset, .unset, .unset] [])) st9 ?_
  refine go _ (T9.setTop (mkF m 94 #[.val (.int p0), .val (.int p1), .val (.long q2), .second, .val (.int vo), .val (.ref b1), .unset, .unset, .unset] [(.int p1)])) (fun t k => XS.iloadN X9.here hx rfl (hb hby at_93) rfl k) ?_
  refine go _ (T9.setTop (mkF m 95 #[.val (.int p0), .val (.int p1), .val (.long q2), .second, .val (.int vo), .val (.ref b1), .unset, .unset, .unset] [(.long (p1.toInt64))])) (fun t k => XS.i2l X9.here hx rfl (hb hby at_94) rfl k) ?_
  refine go _ (T9.setTop (mkF m 98 #[.val (.int p0), .val (.int p1), .val (.long q2), .second, .val (.int vo), .val (.ref b1), .unset, .unset, .unset] [(.long (4294967295 : Int64)), (.long (p1.toInt64))])) (fun t k => X9.ldc2Long hx hown (mvT hZ (hw _ (List.mem_of_getElem? (i := 2) rfl))) (g := (mkF m 95 #[.val (.int p0), .val (.int p1), .val (.long q2), .second, .val (.int vo), .val (.ref b1), .unset, .unset, .unset] [(.long (p1.toInt64))])) rfl (hb hby at_95) _ k) ?_
  refine go _ (T9.setTop (mkF m 99 #[.val (.int p0), .val (.int p1), .val (.long q2), .second, .val (.int vo), .val (.ref b1), .unset, .unset, .unset] [(.long ((p1.toInt64) &&& (4294967295 : Int64)))])) (fun t k => XS.land X9.here hx rfl (hb hby at_98) rfl k) ?_
  refine go _ (T9.setTop (mkF m 101 #[.val (.int p0), .val (.int p1), .val (.long q2), .second, .val (.int vo), .val (.ref b1), .val (.long ((p1.toInt64) &&& (4294967295 : Int64))), .second, .unset] [])) (fun t k => XS.lstore X9.here hx rfl (hb hby at_99) rfl (l' := #[.val (.int p0), .val (.int p1), .val (.long q2), .second, .val (.int vo), .val (.ref b1), .val (.long ((p1.toInt64) &&& (4294967295 : Int64))), .second, .unset]) rfl k) ?_
  refine go _ (T9.setTop (mkF m 103 #[.val (.int p0), .val (.int p1), .val (.long q2), .second, .val (.int vo), .val (.ref b1), .val (.long ((p1.toInt64) &&& (4294967295 : Int64))), .second, .unset] [(.ref b1)])) (fun t k => XS.aload X9.here hx rfl (hb hby at_101) rfl rfl k) ?_
  refine go _ (T9.setTop (mkF m 105 #[.val (.int p0), .val (.int p1), .val (.long q2), .second, .val (.int vo), .val (.ref b1), .val (.long ((p1.toInt64) &&& (4294967295 : Int64))), .second, .unset] [(.int vo), (.ref b1)])) (fun t k => XS.iload X9.here hx rfl (hb hby at_103) rfl k) ?_
  refine go _ (T9.setTop (mkF m 106 #[.val (.int p0), .val (.int p1), .val (.long q2), .second, .val (.int vo), .val (.ref b1), .val (.long ((p1.toInt64) &&& (4294967295 : Int64))), .second, .unset] [(.int p1), (.int vo), (.ref b1)])) (fun t k => XS.iloadN X9.here hx rfl (hb hby at_105) rfl k) ?_
  obtain ⟨ff, hff⟩ : ∃ ff : Nat → Value, ff = (own_up (own_up (own_up (own_up (own_up (own_up (own_up (own_up (fun _ => (.int 0)) 0 (.int ((q2.toInt32).toInt8.toInt32))) 1 (.int ((((q2.toUInt64 >>> ((8 : Int32) &&& 0x3f).toInt64.toUInt64).toInt64).toInt32).toInt8.toInt32))) 2 (.int ((((q2.toUInt64 >>> ((16 : Int32) &&& 0x3f).toInt64.toUInt64).toInt64).toInt32).toInt8.toInt32))) 3 (.int ((((q2.toUInt64 >>> ((24 : Int32) &&& 0x3f).toInt64.toUInt64).toInt64).toInt32).toInt8.toInt32))) 4 (.int ((((q2.toUInt64 >>> ((32 : Int32) &&& 0x3f).toInt64.toUInt64).toInt64).toInt32).toInt8.toInt32))) 5 (.int ((((q2.toUInt64 >>> ((40 : Int32) &&& 0x3f).toInt64.toUInt64).toInt64).toInt32).toInt8.toInt32))) 6 (.int ((((q2.toUInt64 >>> ((48 : Int32) &&& 0x3f).toInt64.toUInt64).toInt64).toInt32).toInt8.toInt32))) 7 (.int ((((q2.toUInt64 >>> ((56 : Int32) &&& 0x3f).toInt64.toUInt64).toInt64).toInt32).toInt8.toInt32))) := ⟨_, rfl⟩
  rw [← hff] at Av9
  have Z10z : n0 ≤ h9.size := (Nat.le_trans (Nat.le_trans (Nat.le_trans (Nat.le_trans (Nat.le_trans (Nat.le_trans (Nat.le_trans (Nat.le_trans (Nat.le_trans Z0 E1.1) (Keep.of_wr W2).1) (Keep.of_wr W3).1) (Keep.of_wr W4).1) (Keep.of_wr W5).1) (Keep.of_wr W6).1) (Keep.of_wr W7).1) (Keep.of_wr W8).1) (Keep.of_wr W9).1)
  obtain ⟨_, _, ⟨T11, L11, k11, n11⟩, -, X11, ⟨Lc11, hQ11, l11, y11, z11⟩, st11⟩ := Jvm.LawKit.callS X9 hx (y := (⟨"linewarden/service/Sha256", "putWord", "([BII)V"⟩ : MethodName)) hown (mvT hZ (hw _ (List.mem_of_getElem? (i := 3) rfl))) (mvT hZ (hw _ (List.mem_of_getElem? (i := 4) rfl))) (mvT hZ (hw _ (List.mem_of_getElem? (i := 5) rfl))) (mvT hZ (hw _ (List.mem_of_getElem? (i := 6) rfl))) (by decide) (backOf (W := 0) (rm1 l Z a0 hw [] b1 vo p1 i ff h9 n0 Z10z Av9 hi hi4 g_b1) hZ (hw _ (List.mem_of_getElem? (i := 6) rfl)) (hw _ (List.mem_of_getElem? (i := 5) rfl)) (by decide) (by decide)) (g := (mkF m 106 #[.val (.int p0), .val (.int p1), .val (.long q2), .second, .val (.int vo), .val (.ref b1), .val (.long ((p1.toInt64) &&& (4294967295 : Int64))), .second, .unset] [(.int p1), (.int vo), (.ref b1)])) rfl (by rw [hml]; rfl) (argsL := [(.ref b1), (.int vo), (.int p1)]) (rest := []) (lenOf own_pd_0 rfl) rfl (by show 2 * 0 + _ ≤ _; exact Nat.le_of_eq rfl) (hb hby at_106) (fun _ _ => ⟨rfl, e9, (by decide : 1 + 0 ≤ _), (by decide : 8 + 0 ≤ _)⟩)
  dsimp only [Pt.U, Pt.locs, Pt.cells, Pt.slots] at X11 l11 y11 z11 st11 hQ11
  subst l11 y11 z11
  obtain ⟨rfl, Nq11, K11, Ap11⟩ := hQ11
  have N11 := Fr.app N9 Nq11
  refine go _ (T11.setTop (mkF m 109 #[.val (.int p0), .val (.int p1), .val (.long q2), .second, .val (.int vo), .val (.ref b1), .val (.long ((p1.toInt64) &&& (4294967295 : Int64))), .second, .unset] [])) st11 ?_
  refine go _ (T11.setTop (mkF m 111 #[.val (.int p0), .val (.int p1), .val (.long q2), .second, .val (.int vo), .val (.ref b1), .val (.long ((p1.toInt64) &&& (4294967295 : Int64))), .second, .unset] [(.ref b1)])) (fun t k => XS.aload X11.here hx rfl (hb hby at_109) rfl rfl k) ?_
  refine go _ (T11.setTop (mkF m 112 #[.val (.int p0), .val (.int p1), .val (.long q2), .second, .val (.int vo), .val (.ref b1), .val (.long ((p1.toInt64) &&& (4294967295 : Int64))), .second, .unset] [(.int (0 : Int32)), (.ref b1)])) (fun t k => XS.iconst X11.here hx rfl (hb hby at_111) k) ?_
  refine go _ (T11.setTop (mkF m 114 #[.val (.int p0), .val (.int p1), .val (.long q2), .second, .val (.int vo), .val (.ref b1), .val (.long ((p1.toInt64) &&& (4294967295 : Int64))), .second, .unset] [(.int vo), (.int (0 : Int32)), (.ref b1)])) (fun t k => XS.iload X11.here hx rfl (hb hby at_112) rfl k) ?_
  refine go _ (T11.setTop (mkF m 115 #[.val (.int p0), .val (.int p1), .val (.long q2), .second, .val (.int vo), .val (.ref b1), .val (.long ((p1.toInt64) &&& (4294967295 : Int64))), .second, .unset] [(.long q2), (.int vo), (.int (0 : Int32)), (.ref b1)])) (fun t k => XS.lloadN X11.here hx rfl (hb hby at_114) rfl k) ?_
  refine go _ (T11.setTop (mkF m 117 #[.val (.int p0), .val (.int p1), .val (.long q2), .second, .val (.int vo), .val (.ref b1), .val (.long ((p1.toInt64) &&& (4294967295 : Int64))), .second, .unset] [(.long ((p1.toInt64) &&& (4294967295 : Int64))), (.long q2), (.int vo), (.int (0 : Int32)), (.ref b1)])) (fun t k => XS.lload X11.here hx rfl (hb hby at_115) rfl k) ?_
  have Z12z : n0 ≤ T11.heap.size := (Nat.le_trans Z10z K11.1)
  obtain ⟨_, _, ⟨T13, L13, k13, n13⟩, -, X13, ⟨Lc13, hQ13, l13, y13, z13⟩, st13⟩ := Jvm.LawKit.callS X11 hx (y := (⟨"linewarden/service/Sha256PutWordPinLaw", "at", "([BIIJJ)Z"⟩ : MethodName)) hown (mvT hZ (hw _ (List.mem_of_getElem? (i := 7) rfl))) (mvT hZ (hw _ (List.mem_of_getElem? (i := 8) rfl))) (mvT hZ (hw _ (List.mem_of_getElem? (i := 9) rfl))) (mvT hZ (hw _ (List.mem_of_getElem? (i := 10) rfl))) (by decide) (backOf (W := 0) (rm2 l Z a0 hw [] b1 (0 : Int32) vo q2 ((p1.toInt64) &&& (4294967295 : Int64)) 0 i (own_pw ff i p1) T11.heap n0 Z12z Ap11 (by decide) (by decide) hi hi4 (fun q => by rw [own_pw_out _ _ _ _ q, hff]; show (q2.toInt32).toInt8.toInt32 = _; rw [own_sh0]) (own_asked _ _ _ _) (by rw [own_u]; omega)) hZ (hw _ (List.mem_of_getElem? (i := 10) rfl)) (hw _ (List.mem_of_getElem? (i := 9) rfl)) (by decide) (by decide)) (g := (mkF m 117 #[.val (.int p0), .val (.int p1), .val (.long q2), .second, .val (.int vo), .val (.ref b1), .val (.long ((p1.toInt64) &&& (4294967295 : Int64))), .second, .unset] [(.long ((p1.toInt64) &&& (4294967295 : Int64))), (.long q2), (.int vo), (.int (0 : Int32)), (.ref b1)])) rfl (by rw [hml]; rfl) (argsL := [(.ref b1), (.int (0 : Int32)), (.int vo), (.long q2), (.long ((p1.toInt64) &&& (4294967295 : Int64)))]) (rest := []) (lenOf own_pd_1 rfl) rfl (by show 2 * 0 + _ ≤ _; exact Nat.le_of_eq rfl) (hb hby at_117) (fun _ _ => ⟨rfl, rfl, (by decide : 1 + 0 ≤ _), (by decide : 8 + 0 ≤ _)⟩)
  dsimp only [Pt.U, Pt.locs, Pt.cells, Pt.slots] at X13 l13 y13 z13 st13 hQ13
  subst l13 y13 z13
  obtain ⟨rfl, Nq13, eq13⟩ := hQ13
  have N13 := Fr.app N11 Nq13
  refine go _ (T13.setTop (mkF m 120 #[.val (.int p0), .val (.int p1), .val (.long q2), .second, .val (.int vo), .val (.ref b1), .val (.long ((p1.toInt64) &&& (4294967295 : Int64))), .second, .unset] [(.int (1 : Int32))])) st13 ?_
  have hc120 : ¬ ((1 : Int32) = (0 : Int32)) := by decide
  refine go _ (T13.setTop (mkF m 123 #[.val (.int p0), .val (.int p1), .val (.long q2), .second, .val (.int vo), .val (.ref b1), .val (.long ((p1.toInt64) &&& (4294967295 : Int64))), .second, .unset] [])) (fun t k => XS.ifNo X13.here hx rfl (hb hby at_120) rfl ((if0 _ _).trans (feq hc120).1) k) ?_
  refine go _ (T13.setTop (mkF m 125 #[.val (.int p0), .val (.int p1), .val (.long q2), .second, .val (.int vo), .val (.ref b1), .val (.long ((p1.toInt64) &&& (4294967295 : Int64))), .second, .unset] [(.ref b1)])) (fun t k => XS.aload X13.here hx rfl (hb hby at_123) rfl rfl k) ?_
  refine go _ (T13.setTop (mkF m 126 #[.val (.int p0), .val (.int p1), .val (.long q2), .second, .val (.int vo), .val (.ref b1), .val (.long ((p1.toInt64) &&& (4294967295 : Int64))), .second, .unset] [(.int (1 : Int32)), (.ref b1)])) (fun t k => XS.iconst X13.here hx rfl (hb hby at_125) k) ?_
  refine go _ (T13.setTop (mkF m 128 #[.val (.int p0), .val (.int p1), .val (.long q2), .second, .val (.int vo), .val (.ref b1), .val (.long ((p1.toInt64) &&& (4294967295 : Int64))), .second, .unset] [(.int vo), (.int (1 : Int32)), (.ref b1)])) (fun t k => XS.iload X13.here hx rfl (hb hby at_126) rfl k) ?_
  refine go _ (T13.setTop (mkF m 129 #[.val (.int p0), .val (.int p1), .val (.long q2), .second, .val (.int vo), .val (.ref b1), .val (.long ((p1.toInt64) &&& (4294967295 : Int64))), .second, .unset] [(.long q2), (.int vo), (.int (1 : Int32)), (.ref b1)])) (fun t k => XS.lloadN X13.here hx rfl (hb hby at_128) rfl k) ?_
  refine go _ (T13.setTop (mkF m 131 #[.val (.int p0), .val (.int p1), .val (.long q2), .second, .val (.int vo), .val (.ref b1), .val (.long ((p1.toInt64) &&& (4294967295 : Int64))), .second, .unset] [(.long ((p1.toInt64) &&& (4294967295 : Int64))), (.long q2), (.int vo), (.int (1 : Int32)), (.ref b1)])) (fun t k => XS.lload X13.here hx rfl (hb hby at_129) rfl k) ?_
  obtain ⟨_, _, ⟨T14, L14, k14, n14⟩, -, X14, ⟨Lc14, hQ14, l14, y14, z14⟩, st14⟩ := Jvm.LawKit.callS X13 hx (y := (⟨"linewarden/service/Sha256PutWordPinLaw", "at", "([BIIJJ)Z"⟩ : MethodName)) hown (mvT hZ (hw _ (List.mem_of_getElem? (i := 7) rfl))) (mvT hZ (hw _ (List.mem_of_getElem? (i := 8) rfl))) (mvT hZ (hw _ (List.mem_of_getElem? (i := 9) rfl))) (mvT hZ (hw _ (List.mem_of_getElem? (i := 10) rfl))) (by decide) (backOf (W := 0) (rm2 l Z a0 hw [] b1 (1 : Int32) vo q2 ((p1.toInt64) &&& (4294967295 : Int64)) 1 i (own_pw ff i p1) T11.heap n0 Z12z Ap11 (by decide) (by decide) hi hi4 (fun q => by rw [own_pw_out _ _ _ _ q, hff]; rw [show ((8 : Int32) * (1 : Int32)) = (8 : Int32) by decide]; rfl) (own_asked _ _ _ _) (by rw [own_u]; omega)) hZ (hw _ (List.mem_of_getElem? (i := 10) rfl)) (hw _ (List.mem_of_getElem? (i := 9) rfl)) (by decide) (by decide)) (g := (mkF m 131 #[.val (.int p0), .val (.int p1), .val (.long q2), .second, .val (.int vo), .val (.ref b1), .val (.long ((p1.toInt64) &&& (4294967295 : Int64))), .second, .unset] [(.long ((p1.toInt64) &&& (4294967295 : Int64))), (.long q2), (.int vo), (.int (1 : Int32)), (.ref b1)])) rfl (by rw [hml]; rfl) (argsL := [(.ref b1), (.int (1 : Int32)), (.int vo), (.long q2), (.long ((p1.toInt64) &&& (4294967295 : Int64)))]) (rest := []) (lenOf own_pd_1 rfl) rfl (by show 2 * 0 + _ ≤ _; exact Nat.le_of_eq rfl) (hb hby at_131) (fun _ _ => ⟨rfl, eq13, (by decide : 1 + 0 ≤ _), (by decide : 8 + 0 ≤ _)⟩)
  dsimp only [Pt.U, Pt.locs, Pt.cells, Pt.slots] at X14 l14 y14 z14 st14 hQ14
  subst l14 y14 z14
  obtain ⟨rfl, Nq14, eq14⟩ := hQ14
  have N14 := Fr.app N13 Nq14
  refine go _ (T14.setTop (mkF m 134 #[.val (.int p0), .val (.int p1), .val (.long q2), .second, .val (.int vo), .val (.ref b1), .val (.long ((p1.toInt64) &&& (4294967295 : Int64))), .second, .unset] [(.int (1 : Int32))])) st14 ?_
  have hc134 : ¬ ((1 : Int32) = (0 : Int32)) := by decide
  refine go _ (T14.setTop (mkF m 137 #[.val (.int p0), .val (.int p1), .val (.long q2), .second, .val (.int vo), .val (.ref b1), .val (.long ((p1.toInt64) &&& (4294967295 : Int64))), .second, .unset] [])) (fun t k => XS.ifNo X14.here hx rfl (hb hby at_134) rfl ((if0 _ _).trans (feq hc134).1) k) ?_
  refine go _ (T14.setTop (mkF m 139 #[.val (.int p0), .val (.int p1), .val (.long q2), .second, .val (.int vo), .val (.ref b1), .val (.long ((p1.toInt64) &&& (4294967295 : Int64))), .second, .unset] [(.ref b1)])) (fun t k => XS.aload X14.here hx rfl (hb hby at_137) rfl rfl k) ?_
  refine go _ (T14.setTop (mkF m 140 #[.val (.int p0), .val (.int p1), .val (.long q2), .second, .val (.int vo), .val (.ref b1), .val (.long ((p1.toInt64) &&& (4294967295 : Int64))), .second, .unset] [(.int (2 : Int32)), (.ref b1)])) (fun t k => XS.iconst X14.here hx rfl (hb hby at_139) k) ?_
  refine go _ (T14.setTop (mkF m 142 #[.val (.int p0), .val (.int p1), .val (.long q2), .second, .val (.int vo), .val (.ref b1), .val (.long ((p1.toInt64) &&& (4294967295 : Int64))), .second, .unset] [(.int vo), (.int (2 : Int32)), (.ref b1)])) (fun t k => XS.iload X14.here hx rfl (hb hby at_140) rfl k) ?_
  refine go _ (T14.setTop (mkF m 143 #[.val (.int p0), .val (.int p1), .val (.long q2), .second, .val (.int vo), .val (.ref b1), .val (.long ((p1.toInt64) &&& (4294967295 : Int64))), .second, .unset] [(.long q2), (.int vo), (.int (2 : Int32)), (.ref b1)])) (fun t k => XS.lloadN X14.here hx rfl (hb hby at_142) rfl k) ?_
  refine go _ (T14.setTop (mkF m 145 #[.val (.int p0), .val (.int p1), .val (.long q2), .second, .val (.int vo), .val (.ref b1), .val (.long ((p1.toInt64) &&& (4294967295 : Int64))), .second, .unset] [(.long ((p1.toInt64) &&& (4294967295 : Int64))), (.long q2), (.int vo), (.int (2 : Int32)), (.ref b1)])) (fun t k => XS.lload X14.here hx rfl (hb hby at_143) rfl k) ?_
  obtain ⟨_, _, ⟨T15, L15, k15, n15⟩, -, X15, ⟨Lc15, hQ15, l15, y15, z15⟩, st15⟩ := Jvm.LawKit.callS X14 hx (y := (⟨"linewarden/service/Sha256PutWordPinLaw", "at", "([BIIJJ)Z"⟩ : MethodName)) hown (mvT hZ (hw _ (List.mem_of_getElem? (i := 7) rfl))) (mvT hZ (hw _ (List.mem_of_getElem? (i := 8) rfl))) (mvT hZ (hw _ (List.mem_of_getElem? (i := 9) rfl))) (mvT hZ (hw _ (List.mem_of_getElem? (i := 10) rfl))) (by decide) (backOf (W := 0) (rm2 l Z a0 hw [] b1 (2 : Int32) vo q2 ((p1.toInt64) &&& (4294967295 : Int64)) 2 i (own_pw ff i p1) T11.heap n0 Z12z Ap11 (by decide) (by decide) hi hi4 (fun q => by rw [own_pw_out _ _ _ _ q, hff]; rw [show ((8 : Int32) * (2 : Int32)) = (16 : Int32) by decide]; rfl) (own_asked _ _ _ _) (by rw [own_u]; omega)) hZ (hw _ (List.mem_of_getElem? (i := 10) rfl)) (hw _ (List.mem_of_getElem? (i := 9) rfl)) (by decide) (by decide)) (g := (mkF m 145 #[.val (.int p0), .val (.int p1), .val (.long q2), .second, .val (.int vo), .val (.ref b1), .val (.long ((p1.toInt64) &&& (4294967295 : Int64))), .second, .unset] [(.long ((p1.toInt64) &&& (4294967295 : Int64))), (.long q2), (.int vo), (.int (2 : Int32)), (.ref b1)])) rfl (by rw [hml]; rfl) (argsL := [(.ref b1), (.int (2 : Int32)), (.int vo), (.long q2), (.long ((p1.toInt64) &&& (4294967295 : Int64)))]) (rest := []) (lenOf own_pd_1 rfl) rfl (by show 2 * 0 + _ ≤ _; exact Nat.le_of_eq rfl) (hb hby at_145) (fun _ _ => ⟨rfl, eq14, (by decide : 1 + 0 ≤ _), (by decide : 8 + 0 ≤ _)⟩)
  dsimp only [Pt.U, Pt.locs, Pt.cells, Pt.slots] at X15 l15 y15 z15 st15 hQ15
  subst l15 y15 z15
  obtain ⟨rfl, Nq15, eq15⟩ := hQ15
  have N15 := Fr.app N14 Nq15
  refine go _ (T15.setTop (mkF m 148 #[.val (.int p0), .val (.int p1), .val (.long q2), .second, .val (.int vo), .val (.ref b1), .val (.long ((p1.toInt64) &&& (4294967295 : Int64))), .second, .unset] [(.int (1 : Int32))])) st15 ?_
  have hc148 : ¬ ((1 : Int32) = (0 : Int32)) := by decide
  refine go _ (T15.setTop (mkF m 151 #[.val (.int p0), .val (.int p1), .val (.long q2), .second, .val (.int vo), .val (.ref b1), .val (.long ((p1.toInt64) &&& (4294967295 : Int64))), .second, .unset] [])) (fun t k => XS.ifNo X15.here hx rfl (hb hby at_148) rfl ((if0 _ _).trans (feq hc148).1) k) ?_
  refine go _ (T15.setTop (mkF m 153 #[.val (.int p0), .val (.int p1), .val (.long q2), .second, .val (.int vo), .val (.ref b1), .val (.long ((p1.toInt64) &&& (4294967295 : Int64))), .second, .unset] [(.ref b1)])) (fun t k => XS.aload X15.here hx rfl (hb hby at_151) rfl rfl k) ?_
  refine go _ (T15.setTop (mkF m 154 #[.val (.int p0), .val (.int p1), .val (.long q2), .second, .val (.int vo), .val (.ref b1), .val (.long ((p1.toInt64) &&& (4294967295 : Int64))), .second, .unset] [(.int (3 : Int32)), (.ref b1)])) (fun t k => XS.iconst X15.here hx rfl (hb hby at_153) k) ?_
  refine go _ (T15.setTop (mkF m 156 #[.val (.int p0), .val (.int p1), .val (.long q2), .second, .val (.int vo), .val (.ref b1), .val (.long ((p1.toInt64) &&& (4294967295 : Int64))), .second, .unset] [(.int vo), (.int (3 : Int32)), (.ref b1)])) (fun t k => XS.iload X15.here hx rfl (hb hby at_154) rfl k) ?_
  refine go _ (T15.setTop (mkF m 157 #[.val (.int p0), .val (.int p1), .val (.long q2), .second, .val (.int vo), .val (.ref b1), .val (.long ((p1.toInt64) &&& (4294967295 : Int64))), .second, .unset] [(.long q2), (.int vo), (.int (3 : Int32)), (.ref b1)])) (fun t k => XS.lloadN X15.here hx rfl (hb hby at_156) rfl k) ?_
  refine go _ (T15.setTop (mkF m 159 #[.val (.int p0), .val (.int p1), .val (.long q2), .second, .val (.int vo), .val (.ref b1), .val (.long ((p1.toInt64) &&& (4294967295 : Int64))), .second, .unset] [(.long ((p1.toInt64) &&& (4294967295 : Int64))), (.long q2), (.int vo), (.int (3 : Int32)), (.ref b1)])) (fun t k => XS.lload X15.here hx rfl (hb hby at_157) rfl k) ?_
  obtain ⟨_, _, ⟨T16, L16, k16, n16⟩, -, X16, ⟨Lc16, hQ16, l16, y16, z16⟩, st16⟩ := Jvm.LawKit.callS X15 hx (y := (⟨"linewarden/service/Sha256PutWordPinLaw", "at", "([BIIJJ)Z"⟩ : MethodName)) hown (mvT hZ (hw _ (List.mem_of_getElem? (i := 7) rfl))) (mvT hZ (hw _ (List.mem_of_getElem? (i := 8) rfl))) (mvT hZ (hw _ (List.mem_of_getElem? (i := 9) rfl))) (mvT hZ (hw _ (List.mem_of_getElem? (i := 10) rfl))) (by decide) (backOf (W := 0) (rm2 l Z a0 hw [] b1 (3 : Int32) vo q2 ((p1.toInt64) &&& (4294967295 : Int64)) 3 i (own_pw ff i p1) T11.heap n0 Z12z Ap11 (by decide) (by decide) hi hi4 (fun q => by rw [own_pw_out _ _ _ _ q, hff]; rw [show ((8 : Int32) * (3 : Int32)) = (24 : Int32) by decide]; rfl) (own_asked _ _ _ _) (by rw [own_u]; omega)) hZ (hw _ (List.mem_of_getElem? (i := 10) rfl)) (hw _ (List.mem_of_getElem? (i := 9) rfl)) (by decide) (by decide)) (g := (mkF m 159 #[.val (.int p0), .val (.int p1), .val (.long q2), .second, .val (.int vo), .val (.ref b1), .val (.long ((p1.toInt64) &&& (4294967295 : Int64))), .second, .unset] [(.long ((p1.toInt64) &&& (4294967295 : Int64))), (.long q2), (.int vo), (.int (3 : Int32)), (.ref b1)])) rfl (by rw [hml]; rfl) (argsL := [(.ref b1), (.int (3 : Int32)), (.int vo), (.long q2), (.long ((p1.toInt64) &&& (4294967295 : Int64)))]) (rest := []) (lenOf own_pd_1 rfl) rfl (by show 2 * 0 + _ ≤ _; exact Nat.le_of_eq rfl) (hb hby at_159) (fun _ _ => ⟨rfl, eq15, (by decide : 1 + 0 ≤ _), (by decide : 8 + 0 ≤ _)⟩)
  dsimp only [Pt.U, Pt.locs, Pt.cells, Pt.slots] at X16 l16 y16 z16 st16 hQ16
  subst l16 y16 z16
  obtain ⟨rfl, Nq16, eq16⟩ := hQ16
  have N16 := Fr.app N15 Nq16
  refine go _ (T16.setTop (mkF m 162 #[.val (.int p0), .val (.int p1), .val (.long q2), .second, .val (.int vo), .val (.ref b1), .val (.long ((p1.toInt64) &&& (4294967295 : Int64))), .second, .unset] [(.int (1 : Int32))])) st16 ?_
  have hc162 : ¬ ((1 : Int32) = (0 : Int32)) := by decide
  refine go _ (T16.setTop (mkF m 165 #[.val (.int p0), .val (.int p1), .val (.long q2), .second, .val (.int vo), .val (.ref b1), .val (.long ((p1.toInt64) &&& (4294967295 : Int64))), .second, .unset] [])) (fun t k => XS.ifNo X16.here hx rfl (hb hby at_162) rfl ((if0 _ _).trans (feq hc162).1) k) ?_
  refine go _ (T16.setTop (mkF m 167 #[.val (.int p0), .val (.int p1), .val (.long q2), .second, .val (.int vo), .val (.ref b1), .val (.long ((p1.toInt64) &&& (4294967295 : Int64))), .second, .unset] [(.ref b1)])) (fun t k => XS.aload X16.here hx rfl (hb hby at_165) rfl rfl k) ?_
  refine go _ (T16.setTop (mkF m 168 #[.val (.int p0), .val (.int p1), .val (.long q2), .second, .val (.int vo), .val (.ref b1), .val (.long ((p1.toInt64) &&& (4294967295 : Int64))), .second, .unset] [(.int (4 : Int32)), (.ref b1)])) (fun t k => XS.iconst X16.here hx rfl (hb hby at_167) k) ?_
  refine go _ (T16.setTop (mkF m 170 #[.val (.int p0), .val (.int p1), .val (.long q2), .second, .val (.int vo), .val (.ref b1), .val (.long ((p1.toInt64) &&& (4294967295 : Int64))), .second, .unset] [(.int vo), (.int (4 : Int32)), (.ref b1)])) (fun t k => XS.iload X16.here hx rfl (hb hby at_168) rfl k) ?_
  refine go _ (T16.setTop (mkF m 171 #[.val (.int p0), .val (.int p1), .val (.long q2), .second, .val (.int vo), .val (.ref b1), .val (.long ((p1.toInt64) &&& (4294967295 : Int64))), .second, .unset] [(.long q2), (.int vo), (.int (4 : Int32)), (.ref b1)])) (fun t k => XS.lloadN X16.here hx rfl (hb hby at_170) rfl k) ?_
  refine go _ (T16.setTop (mkF m 173 #[.val (.int p0), .val (.int p1), .val (.long q2), .second, .val (.int vo), .val (.ref b1), .val (.long ((p1.toInt64) &&& (4294967295 : Int64))), .second, .unset] [(.long ((p1.toInt64) &&& (4294967295 : Int64))), (.long q2), (.int vo), (.int (4 : Int32)), (.ref b1)])) (fun t k => XS.lload X16.here hx rfl (hb hby at_171) rfl k) ?_
  obtain ⟨_, _, ⟨T17, L17, k17, n17⟩, -, X17, ⟨Lc17, hQ17, l17, y17, z17⟩, st17⟩ := Jvm.LawKit.callS X16 hx (y := (⟨"linewarden/service/Sha256PutWordPinLaw", "at", "([BIIJJ)Z"⟩ : MethodName)) hown (mvT hZ (hw _ (List.mem_of_getElem? (i := 7) rfl))) (mvT hZ (hw _ (List.mem_of_getElem? (i := 8) rfl))) (mvT hZ (hw _ (List.mem_of_getElem? (i := 9) rfl))) (mvT hZ (hw _ (List.mem_of_getElem? (i := 10) rfl))) (by decide) (backOf (W := 0) (rm2 l Z a0 hw [] b1 (4 : Int32) vo q2 ((p1.toInt64) &&& (4294967295 : Int64)) 4 i (own_pw ff i p1) T11.heap n0 Z12z Ap11 (by decide) (by decide) hi hi4 (fun q => by rw [own_pw_out _ _ _ _ q, hff]; rw [show ((8 : Int32) * (4 : Int32)) = (32 : Int32) by decide]; rfl) (own_asked _ _ _ _) (by rw [own_u]; omega)) hZ (hw _ (List.mem_of_getElem? (i := 10) rfl)) (hw _ (List.mem_of_getElem? (i := 9) rfl)) (by decide) (by decide)) (g := (mkF m 173 #[.val (.int p0), .val (.int p1), .val (.long q2), .second, .val (.int vo), .val (.ref b1), .val (.long ((p1.toInt64) &&& (4294967295 : Int64))), .second, .unset] [(.long ((p1.toInt64) &&& (4294967295 : Int64))), (.long q2), (.int vo), (.int (4 : Int32)), (.ref b1)])) rfl (by rw [hml]; rfl) (argsL := [(.ref b1), (.int (4 : Int32)), (.int vo), (.long q2), (.long ((p1.toInt64) &&& (4294967295 : Int64)))]) (rest := []) (lenOf own_pd_1 rfl) rfl (by show 2 * 0 + _ ≤ _; exact Nat.le_of_eq rfl) (hb hby at_173) (fun _ _ => ⟨rfl, eq16, (by decide : 1 + 0 ≤ _), (by decide : 8 + 0 ≤ _)⟩)
  dsimp only [Pt.U, Pt.locs, Pt.cells, Pt.slots] at X17 l17 y17 z17 st17 hQ17
  subst l17 y17 z17
  obtain ⟨rfl, Nq17, eq17⟩ := hQ17
  have N17 := Fr.app N16 Nq17
  refine go _ (T17.setTop (mkF m 176 #[.val (.int p0), .val (.int p1), .val (.long q2), .second, .val (.int vo), .val (.ref b1), .val (.long ((p1.toInt64) &&& (4294967295 : Int64))), .second, .unset] [(.int (1 : Int32))])) st17 ?_
  have hc176 : ¬ ((1 : Int32) = (0 : Int32)) := by decide
  refine go _ (T17.setTop (mkF m 179 #[.val (.int p0), .val (.int p1), .val (.long q2), .second, .val (.int vo), .val (.ref b1), .val (.long ((p1.toInt64) &&& (4294967295 : Int64))), .second, .unset] [])) (fun t k => XS.ifNo X17.here hx rfl (hb hby at_176) rfl ((if0 _ _).trans (feq hc176).1) k) ?_
  refine go _ (T17.setTop (mkF m 181 #[.val (.int p0), .val (.int p1), .val (.long q2), .second, .val (.int vo), .val (.ref b1), .val (.long ((p1.toInt64) &&& (4294967295 : Int64))), .second, .unset] [(.ref b1)])) (fun t k => XS.aload X17.here hx rfl (hb hby at_179) rfl rfl k) ?_
  refine go _ (T17.setTop (mkF m 182 #[.val (.int p0), .val (.int p1), .val (.long q2), .second, .val (.int vo), .val (.ref b1), .val (.long ((p1.toInt64) &&& (4294967295 : Int64))), .second, .unset] [(.int (5 : Int32)), (.ref b1)])) (fun t k => XS.iconst X17.here hx rfl (hb hby at_181) k) ?_
  refine go _ (T17.setTop (mkF m 184 #[.val (.int p0), .val (.int p1), .val (.long q2), .second, .val (.int vo), .val (.ref b1), .val (.long ((p1.toInt64) &&& (4294967295 : Int64))), .second, .unset] [(.int vo), (.int (5 : Int32)), (.ref b1)])) (fun t k => XS.iload X17.here hx rfl (hb hby at_182) rfl k) ?_
  refine go _ (T17.setTop (mkF m 185 #[.val (.int p0), .val (.int p1), .val (.long q2), .second, .val (.int vo), .val (.ref b1), .val (.long ((p1.toInt64) &&& (4294967295 : Int64))), .second, .unset] [(.long q2), (.int vo), (.int (5 : Int32)), (.ref b1)])) (fun t k => XS.lloadN X17.here hx rfl (hb hby at_184) rfl k) ?_
  refine go _ (T17.setTop (mkF m 187 #[.val (.int p0), .val (.int p1), .val (.long q2), .second, .val (.int vo), .val (.ref b1), .val (.long ((p1.toInt64) &&& (4294967295 : Int64))), .second, .unset] [(.long ((p1.toInt64) &&& (4294967295 : Int64))), (.long q2), (.int vo), (.int (5 : Int32)), (.ref b1)])) (fun t k => XS.lload X17.here hx rfl (hb hby at_185) rfl k) ?_
  obtain ⟨_, _, ⟨T18, L18, k18, n18⟩, -, X18, ⟨Lc18, hQ18, l18, y18, z18⟩, st18⟩ := Jvm.LawKit.callS X17 hx (y := (⟨"linewarden/service/Sha256PutWordPinLaw", "at", "([BIIJJ)Z"⟩ : MethodName)) hown (mvT hZ (hw _ (List.mem_of_getElem? (i := 7) rfl))) (mvT hZ (hw _ (List.mem_of_getElem? (i := 8) rfl))) (mvT hZ (hw _ (List.mem_of_getElem? (i := 9) rfl))) (mvT hZ (hw _ (List.mem_of_getElem? (i := 10) rfl))) (by decide) (backOf (W := 0) (rm2 l Z a0 hw [] b1 (5 : Int32) vo q2 ((p1.toInt64) &&& (4294967295 : Int64)) 5 i (own_pw ff i p1) T11.heap n0 Z12z Ap11 (by decide) (by decide) hi hi4 (fun q => by rw [own_pw_out _ _ _ _ q, hff]; rw [show ((8 : Int32) * (5 : Int32)) = (40 : Int32) by decide]; rfl) (own_asked _ _ _ _) (by rw [own_u]; omega)) hZ (hw _ (List.mem_of_getElem? (i := 10) rfl)) (hw _ (List.mem_of_getElem? (i := 9) rfl)) (by decide) (by decide)) (g := (mkF m 187 #[.val (.int p0), .val (.int p1), .val (.long q2), .second, .val (.int vo), .val (.ref b1), .val (.long ((p1.toInt64) &&& (4294967295 : Int64))), .second, .unset] [(.long ((p1.toInt64) &&& (4294967295 : Int64))), (.long q2), (.int vo), (.int (5 : Int32)), (.ref b1)])) rfl (by rw [hml]; rfl) (argsL := [(.ref b1), (.int (5 : Int32)), (.int vo), (.long q2), (.long ((p1.toInt64) &&& (4294967295 : Int64)))]) (rest := []) (lenOf own_pd_1 rfl) rfl (by show 2 * 0 + _ ≤ _; exact Nat.le_of_eq rfl) (hb hby at_187) (fun _ _ => ⟨rfl, eq17, (by decide : 1 + 0 ≤ _), (by decide : 8 + 0 ≤ _)⟩)
  dsimp only [Pt.U, Pt.locs, Pt.cells, Pt.slots] at X18 l18 y18 z18 st18 hQ18
  subst l18 y18 z18
  obtain ⟨rfl, Nq18, eq18⟩ := hQ18
  have N18 := Fr.app N17 Nq18
  refine go _ (T18.setTop (mkF m 190 #[.val (.int p0), .val (.int p1), .val (.long q2), .second, .val (.int vo), .val (.ref b1), .val (.long ((p1.toInt64) &&& (4294967295 : Int64))), .second, .unset] [(.int (1 : Int32))])) st18 ?_
  have hc190 : ¬ ((1 : Int32) = (0 : Int32)) := by decide
  refine go _ (T18.setTop (mkF m 193 #[.val (.int p0), .val (.int p1), .val (.long q2), .second, .val (.int vo), .val (.ref b1), .val (.long ((p1.toInt64) &&& (4294967295 : Int64))), .second, .unset] [])) (fun t k => XS.ifNo X18.here hx rfl (hb hby at_190) rfl ((if0 _ _).trans (feq hc190).1) k) ?_
  refine go _ (T18.setTop (mkF m 195 #[.val (.int p0), .val (.int p1), .val (.long q2), .second, .val (.int vo), .val (.ref b1), .val (.long ((p1.toInt64) &&& (4294967295 : Int64))), .second, .unset] [(.ref b1)])) (fun t k => XS.aload X18.here hx rfl (hb hby at_193) rfl rfl k) ?_
  refine go _ (T18.setTop (mkF m 197 #[.val (.int p0), .val (.int p1), .val (.long q2), .second, .val (.int vo), .val (.ref b1), .val (.long ((p1.toInt64) &&& (4294967295 : Int64))), .second, .unset] [(.int (6 : Int32)), (.ref b1)])) (fun t k => XS.bipush X18.here hx rfl (hb hby at_195) k) ?_
  refine go _ (T18.setTop (mkF m 199 #[.val (.int p0), .val (.int p1), .val (.long q2), .second, .val (.int vo), .val (.ref b1), .val (.long ((p1.toInt64) &&& (4294967295 : Int64))), .second, .unset] [(.int vo), (.int (6 : Int32)), (.ref b1)])) (fun t k => XS.iload X18.here hx rfl (hb hby at_197) rfl k) ?_
  refine go _ (T18.setTop (mkF m 200 #[.val (.int p0), .val (.int p1), .val (.long q2), .second, .val (.int vo), .val (.ref b1), .val (.long ((p1.toInt64) &&& (4294967295 : Int64))), .second, .unset] [(.long q2), (.int vo), (.int (6 : Int32)), (.ref b1)])) (fun t k => XS.lloadN X18.here hx rfl (hb hby at_199) rfl k) ?_
  refine go _ (T18.setTop (mkF m 202 #[.val (.int p0), .val (.int p1), .val (.long q2), .second, .val (.int vo), .val (.ref b1), .val (.long ((p1.toInt64) &&& (4294967295 : Int64))), .second, .unset] [(.long ((p1.toInt64) &&& (4294967295 : Int64))), (.long q2), (.int vo), (.int (6 : Int32)), (.ref b1)])) (fun t k => XS.lload X18.here hx rfl (hb hby at_200) rfl k) ?_
  obtain ⟨_, _, ⟨T19, L19, k19, n19⟩, -, X19, ⟨Lc19, hQ19, l19, y19, z19⟩, st19⟩ := Jvm.LawKit.callS X18 hx (y := (⟨"linewarden/service/Sha256PutWordPinLaw", "at", "([BIIJJ)Z"⟩ : MethodName)) hown (mvT hZ (hw _ (List.mem_of_getElem? (i := 7) rfl))) (mvT hZ (hw _ (List.mem_of_getElem? (i := 8) rfl))) (mvT hZ (hw _ (List.mem_of_getElem? (i := 9) rfl))) (mvT hZ (hw _ (List.mem_of_getElem? (i := 10) rfl))) (by decide) (backOf (W := 0) (rm2 l Z a0 hw [] b1 (6 : Int32) vo q2 ((p1.toInt64) &&& (4294967295 : Int64)) 6 i (own_pw ff i p1) T11.heap n0 Z12z Ap11 (by decide) (by decide) hi hi4 (fun q => by rw [own_pw_out _ _ _ _ q, hff]; rw [show ((8 : Int32) * (6 : Int32)) = (48 : Int32) by decide]; rfl) (own_asked _ _ _ _) (by rw [own_u]; omega)) hZ (hw _ (List.mem_of_getElem? (i := 10) rfl)) (hw _ (List.mem_of_getElem? (i := 9) rfl)) (by decide) (by decide)) (g := (mkF m 202 #[.val (.int p0), .val (.int p1), .val (.long q2), .second, .val (.int vo), .val (.ref b1), .val (.long ((p1.toInt64) &&& (4294967295 : Int64))), .second, .unset] [(.long ((p1.toInt64) &&& (4294967295 : Int64))), (.long q2), (.int vo), (.int (6 : Int32)), (.ref b1)])) rfl (by rw [hml]; rfl) (argsL := [(.ref b1), (.int (6 : Int32)), (.int vo), (.long q2), (.long ((p1.toInt64) &&& (4294967295 : Int64)))]) (rest := []) (lenOf own_pd_1 rfl) rfl (by show 2 * 0 + _ ≤ _; exact Nat.le_of_eq rfl) (hb hby at_202) (fun _ _ => ⟨rfl, eq18, (by decide : 1 + 0 ≤ _), (by decide : 8 + 0 ≤ _)⟩)
  dsimp only [Pt.U, Pt.locs, Pt.cells, Pt.slots] at X19 l19 y19 z19 st19 hQ19
  subst l19 y19 z19
  obtain ⟨rfl, Nq19, eq19⟩ := hQ19
  have N19 := Fr.app N18 Nq19
  refine go _ (T19.setTop (mkF m 205 #[.val (.int p0), .val (.int p1), .val (.long q2), .second, .val (.int vo), .val (.ref b1), .val (.long ((p1.toInt64) &&& (4294967295 : Int64))), .second, .unset] [(.int (1 : Int32))])) st19 ?_
  have hc205 : ¬ ((1 : Int32) = (0 : Int32)) := by decide
  refine go _ (T19.setTop (mkF m 208 #[.val (.int p0), .val (.int p1), .val (.long q2), .second, .val (.int vo), .val (.ref b1), .val (.long ((p1.toInt64) &&& (4294967295 : Int64))), .second, .unset] [])) (fun t k => XS.ifNo X19.here hx rfl (hb hby at_205) rfl ((if0 _ _).trans (feq hc205).1) k) ?_
  refine go _ (T19.setTop (mkF m 210 #[.val (.int p0), .val (.int p1), .val (.long q2), .second, .val (.int vo), .val (.ref b1), .val (.long ((p1.toInt64) &&& (4294967295 : Int64))), .second, .unset] [(.ref b1)])) (fun t k => XS.aload X19.here hx rfl (hb hby at_208) rfl rfl k) ?_
  refine go _ (T19.setTop (mkF m 212 #[.val (.int p0), .val (.int p1), .val (.long q2), .second, .val (.int vo), .val (.ref b1), .val (.long ((p1.toInt64) &&& (4294967295 : Int64))), .second, .unset] [(.int (7 : Int32)), (.ref b1)])) (fun t k => XS.bipush X19.here hx rfl (hb hby at_210) k) ?_
  refine go _ (T19.setTop (mkF m 214 #[.val (.int p0), .val (.int p1), .val (.long q2), .second, .val (.int vo), .val (.ref b1), .val (.long ((p1.toInt64) &&& (4294967295 : Int64))), .second, .unset] [(.int vo), (.int (7 : Int32)), (.ref b1)])) (fun t k => XS.iload X19.here hx rfl (hb hby at_212) rfl k) ?_
  refine go _ (T19.setTop (mkF m 215 #[.val (.int p0), .val (.int p1), .val (.long q2), .second, .val (.int vo), .val (.ref b1), .val (.long ((p1.toInt64) &&& (4294967295 : Int64))), .second, .unset] [(.long q2), (.int vo), (.int (7 : Int32)), (.ref b1)])) (fun t k => XS.lloadN X19.here hx rfl (hb hby at_214) rfl k) ?_
  refine go _ (T19.setTop (mkF m 217 #[.val (.int p0), .val (.int p1), .val (.long q2), .second, .val (.int vo), .val (.ref b1), .val (.long ((p1.toInt64) &&& (4294967295 : Int64))), .second, .unset] [(.long ((p1.toInt64) &&& (4294967295 : Int64))), (.long q2), (.int vo), (.int (7 : Int32)), (.ref b1)])) (fun t k => XS.lload X19.here hx rfl (hb hby at_215) rfl k) ?_
  obtain ⟨_, _, ⟨T20, L20, k20, n20⟩, -, X20, ⟨Lc20, hQ20, l20, y20, z20⟩, st20⟩ := Jvm.LawKit.callS X19 hx (y := (⟨"linewarden/service/Sha256PutWordPinLaw", "at", "([BIIJJ)Z"⟩ : MethodName)) hown (mvT hZ (hw _ (List.mem_of_getElem? (i := 7) rfl))) (mvT hZ (hw _ (List.mem_of_getElem? (i := 8) rfl))) (mvT hZ (hw _ (List.mem_of_getElem? (i := 9) rfl))) (mvT hZ (hw _ (List.mem_of_getElem? (i := 10) rfl))) (by decide) (backOf (W := 0) (rm2 l Z a0 hw [] b1 (7 : Int32) vo q2 ((p1.toInt64) &&& (4294967295 : Int64)) 7 i (own_pw ff i p1) T11.heap n0 Z12z Ap11 (by decide) (by decide) hi hi4 (fun q => by rw [own_pw_out _ _ _ _ q, hff]; rw [show ((8 : Int32) * (7 : Int32)) = (56 : Int32) by decide]; rfl) (own_asked _ _ _ _) (by rw [own_u]; omega)) hZ (hw _ (List.mem_of_getElem? (i := 10) rfl)) (hw _ (List.mem_of_getElem? (i := 9) rfl)) (by decide) (by decide)) (g := (mkF m 217 #[.val (.int p0), .val (.int p1), .val (.long q2), .second, .val (.int vo), .val (.ref b1), .val (.long ((p1.toInt64) &&& (4294967295 : Int64))), .second, .unset] [(.long ((p1.toInt64) &&& (4294967295 : Int64))), (.long q2), (.int vo), (.int (7 : Int32)), (.ref b1)])) rfl (by rw [hml]; rfl) (argsL := [(.ref b1), (.int (7 : Int32)), (.int vo), (.long q2), (.long ((p1.toInt64) &&& (4294967295 : Int64)))]) (rest := []) (lenOf own_pd_1 rfl) rfl (by show 2 * 0 + _ ≤ _; exact Nat.le_of_eq rfl) (hb hby at_217) (fun _ _ => ⟨rfl, eq19, (by decide : 1 + 0 ≤ _), (by decide : 8 + 0 ≤ _)⟩)
  dsimp only [Pt.U, Pt.locs, Pt.cells, Pt.slots] at X20 l20 y20 z20 st20 hQ20
  subst l20 y20 z20
  obtain ⟨rfl, Nq20, eq20⟩ := hQ20
  have N20 := Fr.app N19 Nq20
  refine go _ (T20.setTop (mkF m 220 #[.val (.int p0), .val (.int p1), .val (.long q2), .second, .val (.int vo), .val (.ref b1), .val (.long ((p1.toInt64) &&& (4294967295 : Int64))), .second, .unset] [(.int (1 : Int32))])) st20 ?_
  have hc220 : ¬ ((1 : Int32) = (0 : Int32)) := by decide
  refine go _ (T20.setTop (mkF m 223 #[.val (.int p0), .val (.int p1), .val (.long q2), .second, .val (.int vo), .val (.ref b1), .val (.long ((p1.toInt64) &&& (4294967295 : Int64))), .second, .unset] [])) (fun t k => XS.ifNo X20.here hx rfl (hb hby at_220) rfl ((if0 _ _).trans (feq hc220).1) k) ?_
  refine go _ (T20.setTop (mkF m 224 #[.val (.int p0), .val (.int p1), .val (.long q2), .second, .val (.int vo), .val (.ref b1), .val (.long ((p1.toInt64) &&& (4294967295 : Int64))), .second, .unset] [(.int (1 : Int32))])) (fun t k => XS.iconst X20.here hx rfl (hb hby at_223) k) ?_
  refine go _ (T20.setTop (mkF m 228 #[.val (.int p0), .val (.int p1), .val (.long q2), .second, .val (.int vo), .val (.ref b1), .val (.long ((p1.toInt64) &&& (4294967295 : Int64))), .second, .unset] [(.int (1 : Int32))])) (fun t k => XS.goto X20.here hx rfl (pc0 := 224) (pc' := 228) rfl (hb hby at_224) (by decide) (by decide) k) ?_
  refine go _ (T20.setTop (mkF m 230 #[.val (.int p0), .val (.int p1), .val (.long q2), .second, .val (.int vo), .val (.ref b1), .val (.long ((p1.toInt64) &&& (4294967295 : Int64))), .second, .val (.int (1 : Int32))] [])) (fun t k => XS.istore X20.here hx rfl (hb hby at_228) rfl (l' := #[.val (.int p0), .val (.int p1), .val (.long q2), .second, .val (.int vo), .val (.ref b1), .val (.long ((p1.toInt64) &&& (4294967295 : Int64))), .second, .val (.int (1 : Int32))]) rfl k) ?_
  refine go _ (T20.setTop (mkF m 232 #[.val (.int p0), .val (.int p1), .val (.long q2), .second, .val (.int vo), .val (.ref b1), .val (.long ((p1.toInt64) &&& (4294967295 : Int64))), .second, .val (.int (1 : Int32))] [(.int (1 : Int32))])) (fun t k => XS.iload X20.here hx rfl (hb hby at_230) rfl k) ?_
  have hc232 : ¬ ((1 : Int32) = (0 : Int32)) := by decide
  refine go _ (T20.setTop (mkF m 235 #[.val (.int p0), .val (.int p1), .val (.long q2), .second, .val (.int vo), .val (.ref b1), .val (.long ((p1.toInt64) &&& (4294967295 : Int64))), .second, .val (.int (1 : Int32))] [])) (fun t k => XS.ifNo X20.here hx rfl (hb hby at_232) rfl ((if0 _ _).trans (feq hc232).1) k) ?_
  refine go _ (T20.setTop (mkF m 237 #[.val (.int p0), .val (.int p1), .val (.long q2), .second, .val (.int vo), .val (.ref b1), .val (.long ((p1.toInt64) &&& (4294967295 : Int64))), .second, .val (.int (1 : Int32))] [(.ref b1)])) (fun t k => XS.aload X20.here hx rfl (hb hby at_235) rfl rfl k) ?_
  refine go _ (T20.setTop (mkF m 239 #[.val (.int p0), .val (.int p1), .val (.long q2), .second, .val (.int vo), .val (.ref b1), .val (.long ((p1.toInt64) &&& (4294967295 : Int64))), .second, .val (.int (1 : Int32))] [(.int vo), (.ref b1)])) (fun t k => XS.iload X20.here hx rfl (hb hby at_237) rfl k) ?_
  obtain ⟨_, _, ⟨T21, L21, k21, n21⟩, -, X21, ⟨Lc21, hQ21, l21, y21, z21⟩, st21⟩ := Jvm.LawKit.callS X20 hx (y := (⟨"linewarden/service/Sha256", "word", "([BI)I"⟩ : MethodName)) hown (mvT hZ (hw _ (List.mem_of_getElem? (i := 14) rfl))) (mvT hZ (hw _ (List.mem_of_getElem? (i := 15) rfl))) (mvT hZ (hw _ (List.mem_of_getElem? (i := 5) rfl))) (mvT hZ (hw _ (List.mem_of_getElem? (i := 16) rfl))) (by decide) (backOf (W := 0) (rm3 l Z a0 hw [] b1 vo i (own_pw ff i p1) T11.heap n0 Z12z Ap11 hi hi4) hZ (hw _ (List.mem_of_getElem? (i := 16) rfl)) (hw _ (List.mem_of_getElem? (i := 5) rfl)) (by decide) (by decide)) (g := (mkF m 239 #[.val (.int p0), .val (.int p1), .val (.long q2), .second, .val (.int vo), .val (.ref b1), .val (.long ((p1.toInt64) &&& (4294967295 : Int64))), .second, .val (.int (1 : Int32))] [(.int vo), (.ref b1)])) rfl (by rw [hml]; rfl) (argsL := [(.ref b1), (.int vo)]) (rest := []) (lenOf own_pd_2 rfl) rfl (by show 2 * 0 + _ ≤ _; exact Nat.le_of_eq rfl) (hb hby at_239) (fun _ _ => ⟨rfl, eq20, (by decide : 1 + 0 ≤ _), (by decide : 8 + 0 ≤ _)⟩)
  dsimp only [Pt.U, Pt.locs, Pt.cells, Pt.slots] at X21 l21 y21 z21 st21 hQ21
  subst l21 y21 z21
  obtain ⟨rfl, Nq21, eq21⟩ := hQ21
  have N21 := Fr.app N20 Nq21
  refine go _ (T21.setTop (mkF m 242 #[.val (.int p0), .val (.int p1), .val (.long q2), .second, .val (.int vo), .val (.ref b1), .val (.long ((p1.toInt64) &&& (4294967295 : Int64))), .second, .val (.int (1 : Int32))] [(.int (own_wd (own_iv ((own_pw ff i p1) i)) (own_iv ((own_pw ff i p1) (i + 1))) (own_iv ((own_pw ff i p1) (i + 2))) (own_iv ((own_pw ff i p1) (i + 3)))))])) st21 ?_
  refine go _ (T21.setTop (mkF m 243 #[.val (.int p0), .val (.int p1), .val (.long q2), .second, .val (.int vo), .val (.ref b1), .val (.long ((p1.toInt64) &&& (4294967295 : Int64))), .second, .val (.int (1 : Int32))] [(.int p1), (.int (own_wd (own_iv ((own_pw ff i p1) i)) (own_iv ((own_pw ff i p1) (i + 1))) (own_iv ((own_pw ff i p1) (i + 2))) (own_iv ((own_pw ff i p1) (i + 3)))))])) (fun t k => XS.iloadN X21.here hx rfl (hb hby at_242) rfl k) ?_
  have hc243 : (own_wd (own_iv ((own_pw ff i p1) i)) (own_iv ((own_pw ff i p1) (i + 1))) (own_iv ((own_pw ff i p1) (i + 2))) (own_iv ((own_pw ff i p1) (i + 3)))) = p1 := by
    obtain ⟨e0', e1', e2', e3'⟩ := own_pw_in ff i p1
    rw [e0', e1', e2', e3']
    exact own_back p1
  refine go _ (T21.setTop (mkF m 246 #[.val (.int p0), .val (.int p1), .val (.long q2), .second, .val (.int vo), .val (.ref b1), .val (.long ((p1.toInt64) &&& (4294967295 : Int64))), .second, .val (.int (1 : Int32))] [])) (fun t k => XS.icmpNo X21.here hx rfl (hb hby at_243) rfl (teq hc243).2 k) ?_
  refine go _ (T21.setTop (mkF m 247 #[.val (.int p0), .val (.int p1), .val (.long q2), .second, .val (.int vo), .val (.ref b1), .val (.long ((p1.toInt64) &&& (4294967295 : Int64))), .second, .val (.int (1 : Int32))] [(.int (1 : Int32))])) (fun t k => XS.iconst X21.here hx rfl (hb hby at_246) k) ?_
  refine go _ (T21.setTop (mkF m 251 #[.val (.int p0), .val (.int p1), .val (.long q2), .second, .val (.int vo), .val (.ref b1), .val (.long ((p1.toInt64) &&& (4294967295 : Int64))), .second, .val (.int (1 : Int32))] [(.int (1 : Int32))])) (fun t k => XS.goto X21.here hx rfl (pc0 := 247) (pc' := 251) rfl (hb hby at_247) (by decide) (by decide) k) ?_
  refine fin (some (.int (1 : Int32))) (mkF m 251 #[.val (.int p0), .val (.int p1), .val (.long q2), .second, .val (.int vo), .val (.ref b1), .val (.long ((p1.toInt64) &&& (4294967295 : Int64))), .second, .val (.int (1 : Int32))] [(.int (1 : Int32))]) X21 (fun h => by cases h) (fun fs hr => retOut X21 hx (t := .boolean) hret rfl (Or.inl ⟨rfl, by simp, _, rfl⟩) (hb hby at_251) hr) ?_ (by decide) (by decide)
  exact ⟨rfl, N21⟩
set_option maxRecDepth 65536 in
set_option maxHeartbeats 40000000 in
theorem comes_1 {Post : Tables → Env → Array Value → State → Outcome → State → Prop} (hpost : ∀ tb e args s v u, (limb_1_1.after args s (.returned v) u = true ∧ limb_1_2.after args s (.returned v) u = true ∧ True) → FrameEnd s (.returned v) u (Jvm.fieldLocs frame_1_writes args s ++ Jvm.arrayLocs frame_1_arrays args s ++ Jvm.staticLocs frame_1_statics s) 16 128 → Post tb e args s (.returned v) u) :
    ArmFor flags0 classFile x code maxLocals ret World_1 tables_1 room_1 Calls_1 rest_1 Pre_1 Post := by
  intro l hfl _ _ p e ha hc hk s m args below hf hA hF happ hP
  obtain ⟨hcalls, hrest, hpre⟩ := hP
  obtain ⟨-, -, -, hnamed, -, -, -, hat⟩ := (Spec.applies_iff hf).mp happ
  obtain ⟨hg, hn⟩ := and_e (Cond.before_iff.mp (show (Jvm.Cond.and given_1 narrow_1).before args s = true from hpre))
  obtain ⟨gg1, gg2⟩ := and_e hg
  obtain ⟨gg3, gg4⟩ := and_e gg2
  obtain ⟨gg5, gg6⟩ := and_e gg4
  obtain ⟨w0, w1, w2, rfl⟩ : ∃ w0 w1 w2 : Value, args = #[w0, w1, w2] := by
    have hs : args.size = 3 := by simpa [Cond.value, given_1] using gg1
    obtain ⟨L⟩ := args
    match L, hs with
    | [w0, w1, w2], _ => exact ⟨w0, w1, w2, rfl⟩
  have hw := fun d (hd : d ∈ tables_1) => atoms_spec (ws := Jvm.Cond.code x code maxLocals ret :: tables_1) hat d (List.mem_cons_of_mem _ hd)
  have hfit : Fit s := fun {y c} hc i hi => by
    obtain ⟨ha, rfl⟩ := Array.getElem?_eq_some_iff.mp hc
    have q := List.all_eq_true.mp ((Array.all_eq_true_iff_forall_mem.mp hF) _ (Array.getElem_mem ha)) i (List.mem_range.mpr hi)
    simpa [Array.getElem?_eq_getElem hi] using q
  obtain ⟨i0, ei0⟩ := is_v gg3
  obtain rfl : w0 = (.int i0) := Option.some.inj ei0
  obtain ⟨i1, ei1⟩ := is_v gg5
  obtain rfl : w1 = (.int i1) := Option.some.inj ei1
  obtain ⟨i2, ei2⟩ := isL_v gg6
  obtain rfl : w2 = (.long i2) := Option.some.inj ei2
  obtain ⟨n, o, h1, h2, h3, _, L, rfl, ⟨rfl, N⟩, hq⟩ := rm0 l s _ hw tables_1 i0 i1 i2 s.heap s.heap.size (Nat.le_refl _)  p e ha hc hk s m _ below hf ((Spec.applies_iff_loose hf).mp happ).1 ⟨rfl, State.Warmed39.refl s, rfl⟩ trivial
  refine ⟨n, _, h1, h2, h3, hpost _ _ _ _ _ _ ⟨Cond.after_iff.mpr rfl, Cond.after_iff.mpr (eq_i res_at (Term.int_eval (1)) rfl), trivial⟩ ⟨hq.1, hq.2.1, (hq.2.2.sift fun y hy => Or.inr (N y hy)).mono (by decide) (by decide)⟩⟩
theorem main_1_1 : Claimed_1_1 := comes_1 fun _ _ _ _ _ _ h hF => ⟨h.1, hF⟩
theorem main_1_2 : Claimed_1_2 := comes_1 fun _ _ _ _ _ _ h hF => ⟨h.2.1, hF⟩
end Jvm.Pilot.@@N@@
namespace Jvm.Pilot.@@N@@
open Jvm Jvm.ClassFile Sem Op Lib Jvm.Free Jvm.Stand Jvm.Pilot.@@N@@.Jvm.D
/-! MADE BY PROGRAM (witnessworld.py) out of the Statement's table words and the real class files: 9 classes; the members and pool entries that the words name. The judged class is class 1, her method 1. -/
namespace start1
open Jvm.ClassFile
def u (s : String) : CpInfo := .utf8 (stringToUtf16 s)
/-- a pool by its gaps: so many unusable entries, then the entry; so many at the end -/
def gap : Nat → List CpInfo → List CpInfo
  | 0, r => r
  | n + 1, r => .unusable :: gap n r
def poolList (es : List (Nat × CpInfo)) (last : Nat) : List CpInfo := es.foldr (fun e r => gap e.1 (e.2 :: r)) (gap last [])
def pool (es : List (Nat × CpInfo)) (last : Nat) : Array CpInfo := ⟨poolList es last⟩
def fileOf (pool : Array CpInfo) (this : Nat) (attrs : Array Attribute := #[]) (ms : Array MethodInfo := #[]) (fl : Nat := 33) (sup : Nat := 0) (ifs : Array Nat := #[]) (fds : Array FieldInfo := #[]) : ClassFile where
  minorVersion := 0
  majorVersion := 65
  constantPool := pool
  accessFlags := fl
  thisClass := this
  superClass := sup
  interfaces := ifs
  fields := fds
  methods := ms
  attributes := attrs
def plain (name : String) (sup : Option ClassId) : Class where
  name := name
  kind := .ordinary
  loader := none
  accessFlags := 33
  super := sup
  interfaces := #[]
  cf := none
  fields := #[]
  methods := #[]
  instanceTypes := #[]
  staticTypes := #[]
  resolved := #[]
  callSites := []
  init := .initialized
  statics := none
  mirror := none

def pool0 : Array CpInfo := pool [(5, u "<init>"), (0, u "()V"), (1, .class_ 10), (1, u "java/lang/Object")] 113

def k0m0 : Method := { name := "<init>", desc := "()V", sig := { parameters := [], returnType := none }, accessFlags := 1, code := none }
/-- java/lang/Object -/
def k0 : Class := { plain "java/lang/Object" none with
  accessFlags := 33
  interfaces := #[]
  cf := some (fileOf pool0 8 #[] #[{ accessFlags := 1, nameIndex := 5, descriptorIndex := 6, attributes := #[] }] 33 0 #[] #[])
  fields := #[]
  methods := #[k0m0]
  instanceTypes := #[]
  staticTypes := #[]
  resolved := Array.replicate 124 none
  statics := none }

def pool1 : Array CpInfo := pool [(2, .class_ 4), (1, u "java/lang/Object"), (0, u "<init>"), (0, u "()V"), (0, .integer 2147483647), (0, .long 4294967295), (1, .methodref 11 12), (0, .class_ 13), (0, .nameAndType 14 15), (0, u "linewarden/service/Sha256"), (0, u "putWord"), (0, u "([BII)V"), (0, .methodref 17 18), (0, .class_ 19), (0, .nameAndType 20 21), (0, u "linewarden/service/Sha256PutWordPinLaw"), (0, u "at"), (0, u "([BIIJJ)Z"), (0, .methodref 11 23), (0, .nameAndType 24 25), (0, u "word"), (0, u "([BI)I"), (0, .long 16777216), (1, .long 65536), (1, .long 256), (3, u "law"), (0, u "(IIJ)Z")] 5

def k1m0 : Method := { name := "<init>", desc := "()V", sig := { parameters := [], returnType := none }, accessFlags := 2, code := none }
def k1c1 : Code := { maxStack := 7, maxLocals := 9, code := code, exceptionTable := #[], attributes := #[] }
def k1m1 : Method := { name := "law", desc := "(IIJ)Z", sig := { parameters := [.int, .int, .long], returnType := some .boolean }, accessFlags := 9, code := some k1c1 }
def k1c2 : Code := { maxStack := 5, maxLocals := 10, code := method_3_code, exceptionTable := #[], attributes := #[] }
def k1m2 : Method := { name := "at", desc := "([BIIJJ)Z", sig := { parameters := [(.array .byte), .int, .int, .long, .long], returnType := some .boolean }, accessFlags := 10, code := some k1c2 }
/-- linewarden/service/Sha256PutWordPinLaw -/
def k1 : Class := { plain "linewarden/service/Sha256PutWordPinLaw" (some 0) with
  accessFlags := 49
  interfaces := #[]
  cf := some (fileOf pool1 17 #[] #[{ accessFlags := 2, nameIndex := 5, descriptorIndex := 6, attributes := #[] }, { accessFlags := 9, nameIndex := 34, descriptorIndex := 35, attributes := #[] }, { accessFlags := 10, nameIndex := 20, descriptorIndex := 21, attributes := #[] }] 49 2 #[] #[])
  fields := #[]
  methods := #[k1m0, k1m1, k1m2]
  instanceTypes := #[]
  staticTypes := #[]
  resolved := Array.replicate 41 none
  statics := none }

def pool2 : Array CpInfo := pool [(2, .class_ 4), (1, u "java/lang/Object"), (0, u "<init>"), (0, u "()V"), (1, .class_ 10), (1, u "linewarden/service/Sha256"), (8, u "INITIAL"), (0, u "[I"), (10, u "AFTER_ONE_BLOCK"), (19, u "K"), (14, u "word"), (0, u "([BI)I"), (2, u "PADDING_AFTER_DIGEST"), (58, u "BLOCK_BYTES"), (0, u "I"), (2, u "BLOCK_WORDS"), (1, u "STATE_WORDS"), (1, u "SCHEDULE_WORDS"), (12, u "putWord"), (0, u "([BII)V"), (4, .class_ 157), (0, u "linewarden/service/Sha256$Lanes")] 2

def k2m0 : Method := { name := "<init>", desc := "()V", sig := { parameters := [], returnType := none }, accessFlags := 2, code := none }
def k2c1 : Code := { maxStack := 4, maxLocals := 2, code := prog_133_method_10_code, exceptionTable := #[], attributes := #[] }
def k2m1 : Method := { name := "word", desc := "([BI)I", sig := { parameters := [(.array .byte), .int], returnType := some .int }, accessFlags := 8, code := some k2c1 }
def k2c2 : Code := { maxStack := 4, maxLocals := 3, code := prog_133_method_11_code, exceptionTable := #[], attributes := #[] }
def k2m2 : Method := { name := "putWord", desc := "([BII)V", sig := { parameters := [(.array .byte), .int, .int], returnType := none }, accessFlags := 8, code := some k2c2 }
/-- linewarden/service/Sha256 -/
def k2 : Class := { plain "linewarden/service/Sha256" (some 0) with
  accessFlags := 49
  interfaces := #[]
  cf := some (fileOf pool2 8 #[.nestMembers #[156]] #[{ accessFlags := 2, nameIndex := 5, descriptorIndex := 6, attributes := #[] }, { accessFlags := 8, nameIndex := 66, descriptorIndex := 67, attributes := #[] }, { accessFlags := 8, nameIndex := 150, descriptorIndex := 151, attributes := #[] }] 49 2 #[] #[{ accessFlags := 24, nameIndex := 19, descriptorIndex := 20, attributes := #[] }, { accessFlags := 25, nameIndex := 129, descriptorIndex := 130, attributes := #[] }, { accessFlags := 25, nameIndex := 133, descriptorIndex := 130, attributes := #[] }, { accessFlags := 25, nameIndex := 135, descriptorIndex := 130, attributes := #[] }, { accessFlags := 25, nameIndex := 137, descriptorIndex := 130, attributes := #[] }, { accessFlags := 26, nameIndex := 51, descriptorIndex := 20, attributes := #[] }, { accessFlags := 26, nameIndex := 70, descriptorIndex := 20, attributes := #[] }, { accessFlags := 26, nameIndex := 31, descriptorIndex := 20, attributes := #[] }])
  fields := #[{ name := "INITIAL", type := (.array .int), accessFlags := 24, slot := 0, constantValue := 0 }, { name := "BLOCK_BYTES", type := .int, accessFlags := 25, slot := 1, constantValue := 0 }, { name := "BLOCK_WORDS", type := .int, accessFlags := 25, slot := 2, constantValue := 0 }, { name := "STATE_WORDS", type := .int, accessFlags := 25, slot := 3, constantValue := 0 }, { name := "SCHEDULE_WORDS", type := .int, accessFlags := 25, slot := 4, constantValue := 0 }, { name := "K", type := (.array .int), accessFlags := 26, slot := 5, constantValue := 0 }, { name := "PADDING_AFTER_DIGEST", type := (.array .int), accessFlags := 26, slot := 6, constantValue := 0 }, { name := "AFTER_ONE_BLOCK", type := (.array .int), accessFlags := 26, slot := 7, constantValue := 0 }]
  methods := #[k2m0, k2m1, k2m2]
  instanceTypes := #[]
  staticTypes := #[(.array .int), .int, .int, .int, .int, (.array .int), (.array .int), (.array .int)]
  resolved := Array.replicate 160 none
  statics := none }

def pool3 : Array CpInfo := pool [(1, u "java/lang/Cloneable"), (0, .class_ 1), (0, u "java/lang/Object"), (0, .class_ 3)] 3

/-- java/lang/Cloneable -/
def k3 : Class := { plain "java/lang/Cloneable" (some 0) with
  accessFlags := 1537
  interfaces := #[]
  cf := some (fileOf pool3 2 #[] #[] 1537 4 #[] #[])
  fields := #[]
  methods := #[]
  instanceTypes := #[]
  staticTypes := #[]
  resolved := Array.replicate 8 none
  statics := none }

def pool4 : Array CpInfo := pool [(1, u "java/io/Serializable"), (0, .class_ 1), (0, u "java/lang/Object"), (0, .class_ 3)] 3

/-- java/io/Serializable -/
def k4 : Class := { plain "java/io/Serializable" (some 0) with
  accessFlags := 1537
  interfaces := #[]
  cf := some (fileOf pool4 2 #[] #[] 1537 4 #[] #[])
  fields := #[]
  methods := #[]
  instanceTypes := #[]
  staticTypes := #[]
  resolved := Array.replicate 8 none
  statics := none }

/-- the primitive byte -/
def k5 : Class := { plain "byte" none with kind := .primitive 'B', accessFlags := 0x411 }
/-- [B -/
def k6 : Class := { plain "[B" (some 0) with kind := .array 5 .byte, interfaces := #[3, 4], accessFlags := 1041 }

/-- the primitive int -/
def k7 : Class := { plain "int" none with kind := .primitive 'I', accessFlags := 0x411 }
/-- [I -/
def k8 : Class := { plain "[I" (some 0) with kind := .array 7 .int, interfaces := #[3, 4], accessFlags := 1041 }

def heap : Heap := #[]
def classes : Array Class := #[k0, k1, k2, k3, k4, k5, k6, k7, k8]
def interned : List (Array UInt16 × Addr) := []
def slotsUsed : Nat := 0
def theMethod : MethodId := ⟨1, 1⟩
def args0 : Array Value := #[.int 1, .int 2, .long 3]
def aboutOver (below : List Frame) : State where
  vm := { classes := classes, interned := interned.toArray }
  heap := heap
  slotsUsed := slotsUsed
  threads := #[{ frames := .invoking theMethod args0 :: below }]
def below0 : List Frame := [.native { method := ⟨0, 0⟩, args := #[] }]
def about1 : State := aboutOver below0
def p0 : Program := .bare "" "" ""
def e0 : Env := launch0.env 0 0 0
theorem w_frames : about1.frames = Frame.invoking theMethod args0 :: below0 := rfl
set_option maxRecDepth 65536 in
theorem w_args : argsFit about1.vm theMethod args0 = true := by decide +kernel
set_option maxRecDepth 65536 in
theorem w_heap : heapFits about1 = true := by decide +kernel
set_option maxRecDepth 65536 in
theorem w_runnable : about1.curStatus? = some .runnable := by decide +kernel
set_option maxRecDepth 65536 in
theorem w_alone : about1.alone = true := by decide +kernel
set_option maxRecDepth 65536 in
theorem w_named : about1.methodNamed? x = some theMethod := by decide +kernel
set_option maxRecDepth 65536 in
theorem w_hears : about1.hears theMethod below0 = true := by decide +kernel
set_option maxRecDepth 65536 in
theorem w_ripe : about1.ripe theMethod args0 below0 = true := by decide +kernel
theorem w_running : about1.status = .running := rfl
set_option maxRecDepth 65536 in
theorem w_room : about1.hasRoom e0.platform room_1 = true :=
  launch0.hasRoom_least _ room_1 (by decide +kernel) (by decide +kernel) (by decide +kernel) (by decide +kernel) (by decide +kernel) (by decide +kernel)
theorem allAtoms_all (ts : List Jvm.Cond) (a : Array Jvm.Value) (st : Jvm.State) : (allAtoms ts).before a st = ts.all (fun c => c.before a st) := by
  induction ts with
  | nil => rfl
  | cons c t ih =>
    show (Jvm.Cond.and c (allAtoms t)).before a st = _
    rw [Jvm.Cond.before_and, ih, List.all_cons]
def words1 : List Jvm.Cond := Jvm.Cond.code x code maxLocals ret :: tables_1
/-- a 'code' word, met by the world's own term for the bytes: nothing is compared byte by byte -/
theorem code_word {y : MethodName} {bytes : ByteArray} {mx : Nat} {rt : Option FieldType} {a : Array Value} {s : State} {m : MethodId} {meth : Method} {c : Code} (h1 : s.methodNamed? y = some m) (h2 : s.vm.method? m = some meth) (h3 : meth.code = some c) (h4 : c.code = bytes)
    (h5 : (c.maxLocals == mx && c.exceptionTable.isEmpty && decide (c.maxStack ≤ mostOperands) && decide (meth.sig.returnType = rt) && !meth.locks && decide (parseMethodDescriptor y.desc = some meth.sig)) = true) : (Jvm.Cond.code y bytes mx rt).before a s = true := by
  simp only [Bool.and_eq_true, beq_iff_eq, Bool.not_eq_true', decide_eq_true_eq] at h5
  obtain ⟨⟨⟨⟨⟨g1, g2⟩, g3⟩, g4⟩, g5⟩, g6⟩ := h5
  simp [Cond.before, Cond.holds, Cond.value, h1, h2, h3, h4, g1, g2, g3, g4, g5, g6]
def isCode : Jvm.Cond → Bool
  | .code _ _ _ _ => true
  | _ => false
theorem all_split {L : List Jvm.Cond} {P : Jvm.Cond → Bool} (h1 : L.all (fun c => isCode c || P c) = true) (h2 : ∀ c ∈ L.filter isCode, P c = true) : L.all P = true := by
  refine List.all_eq_true.mpr fun c hc => ?_
  have h := List.all_eq_true.mp h1 c hc
  rcases Bool.eq_false_or_eq_true (isCode c) with hi | hi
  · exact h2 c (List.mem_filter.mpr ⟨hc, hi⟩)
  · simpa [hi] using h
set_option maxRecDepth 65536 in
theorem w_c0 : (Jvm.Cond.code x code maxLocals ret).before args0 about1 = true := code_word (m := ⟨1, 1⟩) (meth := k1m1) (c := k1c1) (by decide +kernel) rfl rfl rfl (by decide +kernel)
set_option maxRecDepth 65536 in
theorem w_c1 : (Jvm.Cond.code ({ cls := "linewarden/service/Sha256", name := "putWord", desc := "([BII)V" } : Jvm.MethodName) prog_133_method_11_code (3 : Nat) (Option.none : Option Jvm.ClassFile.FieldType)).before args0 about1 = true := code_word (m := ⟨2, 2⟩) (meth := k2m2) (c := k2c2) (by decide +kernel) rfl rfl rfl (by decide +kernel)
set_option maxRecDepth 65536 in
theorem w_c2 : (Jvm.Cond.code ({ cls := "linewarden/service/Sha256PutWordPinLaw", name := "at", desc := "([BIIJJ)Z" } : Jvm.MethodName) method_3_code (10 : Nat) (Option.some Jvm.ClassFile.FieldType.boolean)).before args0 about1 = true := code_word (m := ⟨1, 2⟩) (meth := k1m2) (c := k1c2) (by decide +kernel) rfl rfl rfl (by decide +kernel)
set_option maxRecDepth 65536 in
theorem w_c3 : (Jvm.Cond.code ({ cls := "linewarden/service/Sha256", name := "word", desc := "([BI)I" } : Jvm.MethodName) prog_133_method_10_code (2 : Nat) (Option.some Jvm.ClassFile.FieldType.int)).before args0 about1 = true := code_word (m := ⟨2, 1⟩) (meth := k2m1) (c := k2c1) (by decide +kernel) rfl rfl rfl (by decide +kernel)
def codes1 : List Jvm.Cond := [Jvm.Cond.code x code maxLocals ret, Jvm.Cond.code ({ cls := "linewarden/service/Sha256", name := "putWord", desc := "([BII)V" } : Jvm.MethodName) prog_133_method_11_code (3 : Nat) (Option.none : Option Jvm.ClassFile.FieldType), Jvm.Cond.code ({ cls := "linewarden/service/Sha256PutWordPinLaw", name := "at", desc := "([BIIJJ)Z" } : Jvm.MethodName) method_3_code (10 : Nat) (Option.some Jvm.ClassFile.FieldType.boolean), Jvm.Cond.code ({ cls := "linewarden/service/Sha256", name := "word", desc := "([BI)I" } : Jvm.MethodName) prog_133_method_10_code (2 : Nat) (Option.some Jvm.ClassFile.FieldType.int)]
set_option maxRecDepth 65536 in
theorem codes_eq : words1.filter isCode = codes1 := rfl
theorem w_codes : ∀ c ∈ words1.filter isCode, c.before args0 about1 = true := by
  rw [codes_eq]
  intro c hc
  simp only [codes1, List.mem_cons, List.not_mem_nil, or_false] at hc
  rcases hc with rfl | rfl | rfl | rfl
  · exact w_c0
  · exact w_c1
  · exact w_c2
  · exact w_c3
set_option maxRecDepth 65536 in
theorem w_t1 : words1.all (fun c => isCode c || c.before args0 about1) = true := by decide +kernel
theorem w_tables : (allAtoms (Jvm.Cond.code x code maxLocals ret :: tables_1)).before args0 about1 = true := by
  rw [allAtoms_all]
  show words1.all (fun c => c.before args0 about1) = true
  refine all_split ?_ w_codes
  rw [w_t1]
set_option maxRecDepth 65536 in
theorem w_case : (Jvm.Cond.and given_1 narrow_1).before args0 about1 = true := by decide +kernel
theorem w_applies : (headSpec (Jvm.Cond.code x code maxLocals ret :: tables_1) room_1).applies x e0.platform about1 = true :=
  (Spec.applies_iff w_frames).mpr ⟨w_running, w_runnable, w_alone, w_named, w_hears, w_ripe, w_room, w_tables⟩
theorem atStart : AtStart classFile x code maxLocals ret World_1 tables_1 room_1 Calls_1 rest_1 Pre_1 launch0 p0 e0 about1 theMethod args0 below0 :=
  ⟨lists_1, trivial, launch0.admits_env _ _ _, launch0.least_env, fairChoices_fair.cas, fairChoices_fair.clock, w_frames, w_args, w_heap, w_applies, trivial, trivial, w_case⟩
end start1
theorem witness_1 : WitnessClaimed_1 := ⟨start1.p0, start1.e0, start1.about1, start1.theMethod, start1.args0, start1.below0, start1.atStart⟩
end Jvm.Pilot.@@N@@
