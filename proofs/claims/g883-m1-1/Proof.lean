import JvmDerived
import JvmDerived.Pilot.@@N@@Statement
import JvmDerived.Pilot.@@N@@Code
set_option linter.unusedVariables false
set_option linter.unusedSimpArgs false
namespace Jvm.Pilot.@@N@@
open Jvm Jvm.ClassFile Sem Op Lib Jvm.Free Jvm.Stand Jvm.LawKit Jvm.RoadKit Bundle Jvm.Pilot.@@N@@.Jvm.D
/-! my own layer: a body's walk by a predicate on states (go: one step on, fin: a return), arrays by their elements -/
theorem own_metfree {l : Launch} {x : MethodName} {ws : List Jvm.Cond} {R : Room} {code : ByteArray} {maxL : Nat} {ret : Option FieldType} {as' : Array Value} {Z : State} {h0 : Heap} {Q : Option Value → Heap → List Loc → Prop} (hpl : plainFor x = true)
    (body : ∀ (p : Program) (e : Env) (s : State) (m : MethodId) (below : List Frame) (meth : Method) (c : Code) (s₁ : State),
      Stand p l e R s m as' below meth c s₁ [] 0 0 → p.tables.exec = Jvm.exec → c.code = code → c.maxLocals = maxL → meth.sig.returnType = ret → s.vm.findClass x.cls = some m.cls → meth.name = x.name → Z.Warmed39 s.vm → s₁.heap = h0 →
      ∀ G : State → Prop, (∀ U U', (∀ t, Steps p.tables e below U' t → Steps p.tables e below U t) → G U' → G U) →
        (∀ {T : State} {locs : List Loc} {cells slots : Nat} (v : Option Value) (g : JFrame), Stand p l e R s m as' below meth c T locs cells slots → (ret = none → v = none) →
          (∀ fs, (∀ (f : JFrame) (acts : List Action), f.method = m → f.locked = none → f.entered = [] → (doReturn e (T.setTop f) acts v).1 = T.setFrames fs) → Steps p.tables e below (T.setTop g) (T.setFrames fs)) →
          Q v T.heap locs → cells ≤ R.cells → slots ≤ R.slots → G (T.setTop g)) →
        G (s₁.setTop (entryFrame m as' maxL))) :
    MetFree l x (head1 (Jvm.Cond.code x code maxL ret :: ws) R) (fun a U => a = as' ∧ Z.Warmed39 U.vm ∧ U.heap = h0) (fun _ _ _ _ _ => True) (fun _ U o U' => ∃ v L, o = .returned v ∧ Q v U'.heap L ∧ FrameEnd U o U' L R.cells R.slots) := by
  refine MetFree.of_bodySF hpl hisR ?_
  intro p e s m args below meth c s₁ Bd hml0 hP hK
  obtain ⟨rfl, hZ, hh⟩ := hP
  have X0 : Stand p l e R s m args below meth c s₁ [] 0 0 := Stand.of_body Bd
  refine body p e s m below meth c s₁ X0 Bd.exec Bd.bytes hml0 Bd.returns (findClass_of_methodNamed Bd.named) (name_of_methodNamed Bd.named Bd.method).1 hZ (by rw [← hh, Bd.state]; rfl)
    (fun U => ∃ s₂ o, Steps p.tables e below U s₂ ∧ s₂.status = .running ∧ Ended s₂ below o ∧ ∃ v L, o = .returned v ∧ Q v s₂.heap L ∧ FrameEnd s o s₂ L R.cells R.slots) ?_ ?_
  · rintro U U' h ⟨s₂, o, h1, h2⟩
    exact ⟨s₂, o, h _ h1, h2⟩
  · intro T locs cells slots v g X hv hst hq hc hs
    obtain ⟨fs, hr, hrun, hended, hW, hsame⟩ := X.leave (v := v) (by rw [Bd.returns]; exact hv)
    exact ⟨_, _, hst fs hr, hrun, hended, _, _, rfl, hq, ⟨_, rfl⟩, hW, hsame.mono hc hs⟩
theorem own_lrem {tb : Tables} [Ours tb] {e : Env} {below : List Frame} {T target : State} {m : MethodId} {c : Code} {g : JFrame} (h : At T m c below) (hx : tb.exec = Jvm.exec) (hg : g.method = m) {x y : Int64} {rest : List Value} (hd : decode c.code g.pc = .ok (.lrem, 1)) (hs : g.stack = .long y :: .long x :: rest) (hy : y ≠ 0)
    (hr : Steps tb e below (T.setTop { g with pc := g.pc + 1, stack := .long (x % y) :: rest }) target) : Steps tb e below (T.setTop g) target :=
  XS.lrem h hx hg hd hs hy (by rw [lrem_mod]; exact hr)
def own_iv : Value → Int32
  | .int x => x
  | _ => 0
def own_jv : Value → Int64
  | .long x => x
  | _ => 0
theorem own_iv_int (x : Int32) : own_iv (.int x) = x := rfl
theorem own_jv_long (x : Int64) : own_jv (.long x) = x := rfl
def own_up (f : Nat → Value) (i : Nat) (v : Value) : Nat → Value := fun k => if k = i then v else f k
theorem own_up_at (f : Nat → Value) (i : Nat) (v : Value) (k : Nat) : own_up f i v k = if k = i then v else f k := rfl
def own_Av (Z : State) (h : Heap) (a : Addr) (ty : FieldType) (n : Nat) (f : Nat → Value) : Prop := ∃ c : Cell, Arr Z h a c ty ∧ c.slots.size = n ∧ n < 2 ^ 31 ∧ ∀ i, i < n → c.slots[i]? = some (f i) ∧ fits ty (f i) = true
theorem own_Av.lt {Z : State} {h : Heap} {a : Addr} {ty : FieldType} {n : Nat} {f : Nat → Value} (A : own_Av Z h a ty n f) : a < h.size := by obtain ⟨c, Ar, -⟩ := A; exact Ar.lt
theorem own_Av.ext {Z : State} {h h' : Heap} {a : Addr} {ty : FieldType} {n : Nat} {f : Nat → Value} (A : own_Av Z h a ty n f) (E : Ext h h') : own_Av Z h' a ty n f := by obtain ⟨c, Ar, r⟩ := A; exact ⟨c, Ar.ext E, r⟩
theorem own_Av.other {Z : State} {h h' : Heap} {a b : Addr} {ty : FieldType} {n : Nat} {f : Nat → Value} {sl : Nat} {v : Value} (A : own_Av Z h a ty n f) (W : Wr h h' b sl v) (q : a ≠ b) : own_Av Z h' a ty n f := by obtain ⟨c, Ar, r⟩ := A; exact ⟨c, Ar.other W q, r⟩
theorem own_Av.keep {Z : State} {h h' : Heap} {a : Addr} {ty : FieldType} {n : Nat} {f : Nat → Value} {ws : List Addr} (A : own_Av Z h a ty n f) (K : Keep h h' ws) (q : a ∉ ws) : own_Av Z h' a ty n f := by obtain ⟨c, Ar, r⟩ := A; exact ⟨c, ⟨K.2.1 a c Ar.1 q, Ar.2⟩, r⟩
theorem own_Av.congr {Z : State} {h : Heap} {a : Addr} {ty : FieldType} {n : Nat} {f f' : Nat → Value} (A : own_Av Z h a ty n f) (q : ∀ i, i < n → f i = f' i) : own_Av Z h a ty n f' := by
  obtain ⟨c, Ar, h1, h2, h3⟩ := A
  exact ⟨c, Ar, h1, h2, fun i hi => by rw [← q i hi]; exact h3 i hi⟩
theorem own_Av.new {Z : State} {h : Heap} {a : Addr} {k : ClassId} {ty : FieldType} {z : Int32} {N : Nat} (A : Arr Z h a (newA k ty z) ty) (q : ¬ z < 0) (e : z.toNatClampNeg = N) : own_Av Z h a ty N (fun _ => defaultValue ty) := by
  have hs : (newA k ty z).slots.size = N := by rw [sz_new, e]
  refine ⟨_, A, hs, e ▸ (back32 q).2, fun i hi => ⟨?_, ?_⟩⟩
  · have hi' : i < (newA k ty z).slots.size := by rw [hs]; exact hi
    rw [Array.getElem?_eq_getElem hi']
    simp [newA]
  · cases ty <;> rfl
theorem own_nat {j : Int32} {i : Nat} (h : j.toInt = (i : Int)) : j.toNatClampNeg = i := by show j.toInt.toNat = i; omega
theorem own_nn {j : Int32} {i : Nat} (h : j.toInt = (i : Int)) : ¬ j < 0 := by
  rw [Int32.lt_iff_toInt_lt]
  have : (0 : Int32).toInt = 0 := by decide
  omega
theorem own_in {j : Int32} {i n : Nat} {cl : Cell} (hs : cl.slots.size = n) (h : j.toInt = (i : Int)) (hi : i < n) : ¬ (j < 0 ∨ cl.slots.size ≤ j.toNatClampNeg) := by
  rw [own_nat h, hs]; rintro (q | q)
  · exact own_nn h q
  · omega
theorem own_nar8 (y : Int32) : nar .byte y.toInt8.toInt32 = y.toInt8.toInt32 := by simp [nar]
theorem own_set {Z : State} {h h' : Heap} {a : Addr} {ty : FieldType} {n : Nat} {f : Nat → Value} {c : Cell} {i : Nat} {v : Value} (Ar : Arr Z h a c ty) (hs : c.slots.size = n) (hn : n < 2 ^ 31) (hf : ∀ i, i < n → c.slots[i]? = some (f i) ∧ fits ty (f i) = true) (W : Wr h h' a i v) (hv : fits ty v = true) (hi : i < n) : own_Av Z h' a ty n (own_up f i v) := by
  refine ⟨_, Ar.same W, by rw [sz_set]; exact hs, hn, fun k hk => ?_⟩
  simp only [own_up_at]
  by_cases q : k = i
  · subst q; simp [Cell.setSlot, hs, hi, hv]
  · rw [if_neg q]; refine ⟨?_, (hf k hk).2⟩; rw [← (hf k hk).1]; simp [Cell.setSlot, Array.getElem?_setIfInBounds, Ne.symm q]
section OwnArr
variable {p : Program} {l : Launch} {e : Env} {R : Room} {s : State} {m : MethodId} {args : Array Value} {below : List Frame} {meth : Method} {c : Code} {T : State} {locs : List Loc} {cells slots : Nat} {Z : State} {h : Heap} {a : Addr} {n : Nat} {f : Nat → Value}
theorem own_ldB (X : Stand p l e R s m args below meth c T locs cells slots) (hx : p.tables.exec = Jvm.exec) (hZ : Z.Warmed39 s.vm) (eT : T.heap = h) (A : own_Av Z h a .byte n f) {j : Int32} {i : Nat} (hj : j.toInt = (i : Int)) (hi : i < n) {g : JFrame} (hg : g.method = m) {rest : List Value} (hs : g.stack = .int j :: .ref a :: rest) (hd : decode c.code g.pc = .ok (.baload, 1)) (target : State)
    (k : Steps p.tables e below (T.setTop { g with pc := g.pc + 1, stack := .int (own_iv (f i)) :: rest }) target) : Steps p.tables e below (T.setTop g) target := by
  obtain ⟨cl, Ar, hsz, hn, hf⟩ := A
  have hat : cl.slots[j.toNatClampNeg]? = some (.int (own_iv (f i))) := by
    rw [own_nat hj, (hf i hi).1]; obtain ⟨x, q⟩ := fit_I (hf i hi).2 (by simp); rw [q]; rfl
  exact X.baloadBytes hx (by rw [eT]; exact Ar.1) (State.isArrayOf_alike hZ.alike Ar.2.1) Ar.2.2 (own_in hsz hj hi) hat hg hs hd target k
theorem own_ldI (X : Stand p l e R s m args below meth c T locs cells slots) (hx : p.tables.exec = Jvm.exec) (hZ : Z.Warmed39 s.vm) (eT : T.heap = h) (A : own_Av Z h a .int n f) {j : Int32} {i : Nat} (hj : j.toInt = (i : Int)) (hi : i < n) {g : JFrame} (hg : g.method = m) {rest : List Value} (hs : g.stack = .int j :: .ref a :: rest) (hd : decode c.code g.pc = .ok (.iaload, 1)) (target : State)
    (k : Steps p.tables e below (T.setTop { g with pc := g.pc + 1, stack := .int (own_iv (f i)) :: rest }) target) : Steps p.tables e below (T.setTop g) target := by
  obtain ⟨cl, Ar, hsz, hn, hf⟩ := A
  have hat : cl.slots[j.toNatClampNeg]? = some (.int (own_iv (f i))) := by
    rw [own_nat hj, (hf i hi).1]; obtain ⟨x, q⟩ := fit_I (hf i hi).2 (by simp); rw [q]; rfl
  exact X.iaload hx (by rw [eT]; exact Ar.1) (State.isArrayOf_alike hZ.alike Ar.2.1) Ar.2.2 (own_in hsz hj hi) hat hg hs hd target k
theorem own_ldJ (X : Stand p l e R s m args below meth c T locs cells slots) (hx : p.tables.exec = Jvm.exec) (hZ : Z.Warmed39 s.vm) (eT : T.heap = h) (A : own_Av Z h a .long n f) {j : Int32} {i : Nat} (hj : j.toInt = (i : Int)) (hi : i < n) {g : JFrame} (hg : g.method = m) {rest : List Value} (hs : g.stack = .int j :: .ref a :: rest) (hd : decode c.code g.pc = .ok (.laload, 1)) (target : State)
    (k : Steps p.tables e below (T.setTop { g with pc := g.pc + 1, stack := .long (own_jv (f i)) :: rest }) target) : Steps p.tables e below (T.setTop g) target := by
  obtain ⟨cl, Ar, hsz, hn, hf⟩ := A
  have hat : cl.slots[j.toNatClampNeg]? = some (.long (own_jv (f i))) := by
    rw [own_nat hj, (hf i hi).1]; obtain ⟨x, q⟩ := fit_J (hf i hi).2; rw [q]; rfl
  exact X.laload hx (by rw [eT]; exact Ar.1) (State.isArrayOf_alike hZ.alike Ar.2.1) Ar.2.2 (own_in hsz hj hi) hat hg hs hd target k
theorem own_len (X : Stand p l e R s m args below meth c T locs cells slots) (hx : p.tables.exec = Jvm.exec) (hZ : Z.Warmed39 s.vm) (eT : T.heap = h) {ty : FieldType} (A : own_Av Z h a ty n f) {z : Int32} (hz : z.toInt = (n : Int)) {g : JFrame} (hg : g.method = m) {rest : List Value} (hs : g.stack = .ref a :: rest) (hd : decode c.code g.pc = .ok (.arraylength, 1)) (target : State)
    (k : Steps p.tables e below (T.setTop { g with pc := g.pc + 1, stack := .int z :: rest }) target) : Steps p.tables e below (T.setTop g) target := by
  obtain ⟨cl, Ar, hsz, hn, hf⟩ := A
  refine X.arraylength hx (by rw [eT]; exact Ar.1) (State.isArrayOf_alike hZ.alike Ar.2.1) hg hs hd target ?_
  rw [len_of (z := z) (by rw [hsz, own_nat hz]) (own_nn hz)]; exact k
theorem own_stB (X : Stand p l e R s m args below meth c T locs cells slots) (hx : p.tables.exec = Jvm.exec) (hZ : Z.Warmed39 s.vm) (eT : T.heap = h) (A : own_Av Z h a .byte n f) {j x : Int32} {i : Nat} (hj : j.toInt = (i : Int)) (hi : i < n) {g : JFrame} (hg : g.method = m) {rest : List Value} (hs : g.stack = .int x :: .int j :: .ref a :: rest) (hd : decode c.code g.pc = .ok (.bastore, 1)) :
    ∃ T' h', Stand p l e R s m args below meth c T' (locs ++ [⟨a, i⟩]) cells slots ∧ T'.heap = h' ∧ Wr h h' a i (.int (nar .byte x)) ∧ own_Av Z h' a .byte n (own_up f i (.int (nar .byte x))) ∧ ∀ target, Steps p.tables e below (T'.setTop { g with pc := g.pc + 1, stack := rest }) target → Steps p.tables e below (T.setTop g) target := by
  obtain ⟨cl, Ar, hsz, hn, hf⟩ := A
  obtain ⟨T', h', X', e', W, st⟩ := stB X hx hZ eT Ar (own_in hsz hj hi) hg hs hd
  rw [own_nat hj] at X' W
  exact ⟨T', h', X', e', W, own_set Ar hsz hn hf W (fits_nar_byte _) hi, st⟩
theorem own_stI (X : Stand p l e R s m args below meth c T locs cells slots) (hx : p.tables.exec = Jvm.exec) (hZ : Z.Warmed39 s.vm) (eT : T.heap = h) (A : own_Av Z h a .int n f) {j x : Int32} {i : Nat} (hj : j.toInt = (i : Int)) (hi : i < n) {g : JFrame} (hg : g.method = m) {rest : List Value} (hs : g.stack = .int x :: .int j :: .ref a :: rest) (hd : decode c.code g.pc = .ok (.iastore, 1)) :
    ∃ T' h', Stand p l e R s m args below meth c T' (locs ++ [⟨a, i⟩]) cells slots ∧ T'.heap = h' ∧ Wr h h' a i (.int x) ∧ own_Av Z h' a .int n (own_up f i (.int x)) ∧ ∀ target, Steps p.tables e below (T'.setTop { g with pc := g.pc + 1, stack := rest }) target → Steps p.tables e below (T.setTop g) target := by
  obtain ⟨cl, Ar, hsz, hn, hf⟩ := A
  obtain ⟨T', h', X', e', W, st⟩ := stI X hx hZ eT Ar (own_in hsz hj hi) hg hs hd
  rw [own_nat hj] at X' W
  exact ⟨T', h', X', e', W, own_set Ar hsz hn hf W rfl hi, st⟩
theorem own_stJ (X : Stand p l e R s m args below meth c T locs cells slots) (hx : p.tables.exec = Jvm.exec) (hZ : Z.Warmed39 s.vm) (eT : T.heap = h) (A : own_Av Z h a .long n f) {j : Int32} {x : Int64} {i : Nat} (hj : j.toInt = (i : Int)) (hi : i < n) {g : JFrame} (hg : g.method = m) {rest : List Value} (hs : g.stack = .long x :: .int j :: .ref a :: rest) (hd : decode c.code g.pc = .ok (.lastore, 1)) :
    ∃ T' h', Stand p l e R s m args below meth c T' (locs ++ [⟨a, i⟩]) cells slots ∧ T'.heap = h' ∧ Wr h h' a i (.long x) ∧ own_Av Z h' a .long n (own_up f i (.long x)) ∧ ∀ target, Steps p.tables e below (T'.setTop { g with pc := g.pc + 1, stack := rest }) target → Steps p.tables e below (T.setTop g) target := by
  obtain ⟨cl, Ar, hsz, hn, hf⟩ := A
  obtain ⟨T', h', X', e', W, st⟩ := stJ X hx hZ eT Ar (own_in hsz hj hi) hg hs hd
  rw [own_nat hj] at X' W
  exact ⟨T', h', X', e', W, own_set Ar hsz hn hf W rfl hi, st⟩
end OwnArr
section OwnNest
variable {p : Program} {l : Launch} {e : Env} {R : Room} {s : State} {m : MethodId} {args : Array Value} {below : List Frame} {meth : Method} {c : Code} {T : State} {locs : List Loc} {cells slots : Nat} {Z : State} {a0 : Array Value} {h : Heap}
theorem own_mvNest {own host : String} {y : MethodName} {index : Nat} (hZ : Z.Warmed39 s.vm) (w : (Jvm.Cond.methodLinkNest own index y host).before a0 Z = true) : (Jvm.Cond.methodLinkNest own index y host).before args s = true := (Cond.methodLinkNest_wide hZ w :)
theorem own_getR (X : Stand p l e R s m args below meth c T locs cells slots) (hx : p.tables.exec = Jvm.exec) (hZ : Z.Warmed39 s.vm) {own O n d : String} {index : Nat} (hown : s.vm.findClass own = some m.cls) (w : (Jvm.Cond.fieldRef own index O n d).before a0 Z = true)
    (eT : T.heap = h) {a : Addr} {v : Value} (F : Fld Z h a O n d v) {g : JFrame} (hg : g.method = m) {rest : List Value} (hs : g.stack = .ref a :: rest) (hd : decode c.code g.pc = .ok (.getfield index, 3)) :
    ∀ target, Steps p.tables e below (T.setTop { g with pc := g.pc + 3, stack := v :: rest }) target → Steps p.tables e below (T.setTop g) target := by
  obtain ⟨cell, cf, k, i, f, h1, h2, h3, h4, -, -, h7⟩ := F
  have hZT : Z.Warmed39 T.vm := wtrans hZ X.warmed
  have w' := Cond.fieldRef_warmed39 hZT w
  have hownT : (Z.setVm T.vm).vm.findClass own = some m.cls := by
    show T.vm.findClass own = some m.cls
    rw [X.warmed.alike.findClass]; exact hown
  obtain ⟨c', k', i', f', h5, hready⟩ := Cond.fieldRef_spec hownT w'
  obtain ⟨k'', h6, -⟩ := State.fieldFound?_setVm (s := Z) hZT.alike h2
  cases h6.symm.trans h5
  intro target hrest
  subst hg
  jvm_step X.here [hx, hd, getfield.wp_ready (e := e) (s := T) (f := g) X.here.top hready h3 hs (by rw [eT]; exact h1) h4 h7]
  exact hrest
end OwnNest
def own_mix (z : Int64) : Int64 :=
  let m1 : Int64 := (z ^^^ ((z.toUInt64 >>> ((30 : Int32) &&& 0x3f).toInt64.toUInt64).toInt64)) * (-4658895280553007687 : Int64)
  let m2 : Int64 := (m1 ^^^ ((m1.toUInt64 >>> ((27 : Int32) &&& 0x3f).toInt64.toUInt64).toInt64)) * (-7723592293110705685 : Int64)
  m2 ^^^ ((m2.toUInt64 >>> ((31 : Int32) &&& 0x3f).toInt64.toUInt64).toInt64)
def own_hi (d : Int64) : Int64 := ((d.toUInt64 >>> ((32 : Int32) &&& 0x3f).toInt64.toUInt64).toInt64)
def own_fw (draw : Int64) (blocks : Int32) : Int32 := ((own_hi ((own_hi draw) * (blocks.toInt64))).toInt32) * (8 : Int32)
theorem own_hi_val (d : Int64) : (own_hi d).toInt = (d.toInt % 18446744073709551616) / 4294967296 := by
  have u1 := c_lushr d (32 : Int32) 32 (by decide) (by decide)
  rw [own_hi]
  simpa using u1
theorem own_blocks (q : Int32) : 1 ≤ ((1 : Int32) + ((q &&& (2147483647 : Int32)) % (4194303 : Int32))).toInt ∧ ((1 : Int32) + ((q &&& (2147483647 : Int32)) % (4194303 : Int32))).toInt ≤ 4194303 := by
  have k1 : (1 : Int32).toInt = 1 := by decide
  have h1 := c_mask q (2147483647 : Int32) 31 (by decide) (by decide)
  have h2 := (c_irem (q &&& (2147483647 : Int32)) (4194303 : Int32) 4194303 (by decide)).1 (by omega)
  have h3 := c_iadd (1 : Int32) ((q &&& (2147483647 : Int32)) % (4194303 : Int32))
  have h4 := rng32 ((1 : Int32) + ((q &&& (2147483647 : Int32)) % (4194303 : Int32)))
  omega
/-- the numbers behind firstWord -/
theorem own_fwv (d : Int64) (b : Int32) (hb : 1 ≤ b.toInt ∧ b.toInt ≤ 4194303) : ∃ P : Int, ((own_hi d) * b.toInt64).toInt = P ∧ 0 ≤ P ∧ P < 18014398509481984 ∧ P / 4294967296 < b.toInt ∧ (own_fw d b).toInt = P / 4294967296 * 8 := by
  have u1 := own_hi_val d
  have r1 := rng64 d
  have hH : 0 ≤ (own_hi d).toInt ∧ (own_hi d).toInt ≤ 4294967295 := by omega
  rw [own_fw]
  clear u1 r1
  generalize own_hi d = H at *
  have n1 : 0 ≤ H.toInt * b.toInt := Int.mul_nonneg hH.1 (by omega)
  have n2 : H.toInt * b.toInt ≤ 4294967295 * b.toInt := Int.mul_le_mul_of_nonneg_right hH.2 (by omega)
  have m1 := c_lmul H b.toInt64
  rw [c_i2l] at m1
  have r2 := rng64 (H * b.toInt64)
  generalize H.toInt * b.toInt = P at *
  have n3 : (H * b.toInt64).toInt = P := by omega
  have u2 := own_hi_val (H * b.toInt64)
  rw [n3] at u2
  have u3 : (own_hi (H * b.toInt64)).toInt = P / 4294967296 := by omega
  have c1 := c_l2i (own_hi (H * b.toInt64))
  have r3 := rng32 (own_hi (H * b.toInt64)).toInt32
  have k8 : (8 : Int32).toInt = 8 := by decide
  have m2 := c_imul (own_hi (H * b.toInt64)).toInt32 (8 : Int32)
  rw [k8] at m2
  have r4 := rng32 ((own_hi (H * b.toInt64)).toInt32 * (8 : Int32))
  refine ⟨P, n3, n1, by omega, by omega, ?_⟩
  clear m1 r2 n3 u2 hH
  omega
section OwnFin
variable {d : Int64} {b : Int32}
theorem own_t1 (hb : 1 ≤ b.toInt ∧ b.toInt ≤ 4194303) : ¬ own_fw d b < (0 : Int32) := by
  obtain ⟨P, -, h2, -, -, h8⟩ := own_fwv d b hb
  have k0 : (0 : Int32).toInt = 0 := by decide
  rw [Int32.lt_iff_toInt_lt]
  omega
theorem own_t2 (hb : 1 ≤ b.toInt ∧ b.toInt ≤ 4194303) : (own_fw d b &&& (7 : Int32)) = (0 : Int32) := by
  obtain ⟨P, -, h2, -, -, h8⟩ := own_fwv d b hb
  have k0 : (0 : Int32).toInt = 0 := by decide
  have m := c_mask (own_fw d b) (7 : Int32) 3 (by decide) (by decide)
  apply Int32.toInt_inj.mp
  omega
theorem own_q (hb : 1 ≤ b.toInt ∧ b.toInt ≤ 4194303) : ∃ P : Int, ((own_hi d) * b.toInt64).toInt = P ∧ 0 ≤ P ∧ P < 18014398509481984 ∧ ((own_fw d b) / (8 : Int32)).toInt64.toInt = P / 4294967296 ∧ P / 4294967296 < b.toInt := by
  obtain ⟨P, h1, h2, h3, h4, h8⟩ := own_fwv d b hb
  have dv := (c_idiv (own_fw d b) (8 : Int32) 8 (by decide) (by decide)).1 (by omega)
  refine ⟨P, h1, h2, h3, ?_, h4⟩
  rw [c_i2l]
  omega
theorem own_t3 (hb : 1 ≤ b.toInt ∧ b.toInt ≤ 4194303) : ((own_fw d b) / (8 : Int32)).toInt64 < b.toInt64 := by
  obtain ⟨P, h1, h2, h3, h4, h5⟩ := own_q (d := d) hb
  rw [Int64.lt_iff_toInt_lt, h4, c_i2l]
  omega
theorem own_t4 (hb : 1 ≤ b.toInt ∧ b.toInt ≤ 4194303) : ¬ ((own_hi d) * b.toInt64) < (((own_fw d b) / (8 : Int32)).toInt64 * (4294967296 : Int64)) := by
  obtain ⟨P, h1, h2, h3, h4, h5⟩ := own_q (d := d) hb
  have k : (4294967296 : Int64).toInt = 4294967296 := by decide
  have m := c_lmul ((own_fw d b) / (8 : Int32)).toInt64 (4294967296 : Int64)
  rw [k] at m
  have r := rng64 (((own_fw d b) / (8 : Int32)).toInt64 * (4294967296 : Int64))
  rw [Int64.lt_iff_toInt_lt]
  omega
theorem own_t5 (hb : 1 ≤ b.toInt ∧ b.toInt ≤ 4194303) : ((own_hi d) * b.toInt64) < ((((own_fw d b) / (8 : Int32)).toInt64 + (1 : Int64)) * (4294967296 : Int64)) := by
  obtain ⟨P, h1, h2, h3, h4, h5⟩ := own_q (d := d) hb
  have k : (4294967296 : Int64).toInt = 4294967296 := by decide
  have k1 : (1 : Int64).toInt = 1 := by decide
  generalize ((own_fw d b) / (8 : Int32)).toInt64 = q at *
  have a := c_ladd q (1 : Int64)
  have ra := rng64 (q + (1 : Int64))
  have ea : (q + (1 : Int64)).toInt = P / 4294967296 + 1 := by omega
  have m := c_lmul (q + (1 : Int64)) (4294967296 : Int64)
  rw [k, ea] at m
  have r := rng64 ((q + (1 : Int64)) * (4294967296 : Int64))
  rw [Int64.lt_iff_toInt_lt, h1]
  clear a ra ea h4
  omega
end OwnFin

theorem own_ef4 (m : MethodId) (q0 : Int64) : entryFrame m #[(.long q0)] 4 = mkF m 0 #[.val (.long q0), .second, .unset, .unset] [] := by first | (simp [entryFrame, mkF, argsToLocals, Value.category]; done) | rfl
theorem own_pn4 : plainName "com/example/bounds_for_brokers/boundsforbrokers/tracker/BloomShape" = true := by first | (simp [plainName, overriddenIn]; done) | decide +kernel
theorem d4_0 : decode prog_11_method_7_code 0 = .ok (.lload_n 0, 1) := by decide +kernel
theorem d4_1 : decode prog_11_method_7_code 1 = .ok (.lload_n 0, 1) := by decide +kernel
theorem d4_2 : decode prog_11_method_7_code 2 = .ok (.bipush 30, 2) := by decide +kernel
theorem d4_4 : decode prog_11_method_7_code 4 = .ok (.lushr, 1) := by decide +kernel
theorem d4_5 : decode prog_11_method_7_code 5 = .ok (.lxor, 1) := by decide +kernel
theorem d4_6 : decode prog_11_method_7_code 6 = .ok (.ldc2_w 101, 3) := by decide +kernel
theorem d4_9 : decode prog_11_method_7_code 9 = .ok (.lmul, 1) := by decide +kernel
theorem d4_10 : decode prog_11_method_7_code 10 = .ok (.lstore_n 2, 1) := by decide +kernel
theorem d4_11 : decode prog_11_method_7_code 11 = .ok (.lload_n 2, 1) := by decide +kernel
theorem d4_12 : decode prog_11_method_7_code 12 = .ok (.lload_n 2, 1) := by decide +kernel
theorem d4_13 : decode prog_11_method_7_code 13 = .ok (.bipush 27, 2) := by decide +kernel
theorem d4_15 : decode prog_11_method_7_code 15 = .ok (.lushr, 1) := by decide +kernel
theorem d4_16 : decode prog_11_method_7_code 16 = .ok (.lxor, 1) := by decide +kernel
theorem d4_17 : decode prog_11_method_7_code 17 = .ok (.ldc2_w 103, 3) := by decide +kernel
theorem d4_20 : decode prog_11_method_7_code 20 = .ok (.lmul, 1) := by decide +kernel
theorem d4_21 : decode prog_11_method_7_code 21 = .ok (.lstore_n 2, 1) := by decide +kernel
theorem d4_22 : decode prog_11_method_7_code 22 = .ok (.lload_n 2, 1) := by decide +kernel
theorem d4_23 : decode prog_11_method_7_code 23 = .ok (.lload_n 2, 1) := by decide +kernel
theorem d4_24 : decode prog_11_method_7_code 24 = .ok (.bipush 31, 2) := by decide +kernel
theorem d4_26 : decode prog_11_method_7_code 26 = .ok (.lushr, 1) := by decide +kernel
theorem d4_27 : decode prog_11_method_7_code 27 = .ok (.lxor, 1) := by decide +kernel
theorem d4_28 : decode prog_11_method_7_code 28 = .ok (.lreturn, 1) := by decide +kernel
def own_Q4 (Z : State) (q0 : Int64) (h0 : Heap) (n0 : Nat) (v : Option Value) (h : Heap) (L : List Loc) : Prop := v = some (.long (own_mix q0)) ∧ Fr n0 L ∧ h = h0
set_option maxRecDepth 65536 in
set_option maxHeartbeats 40000000 in
theorem rm4 (l : Launch) (Z : State) (a0 : Array Value) (hw : ∀ d ∈ tables_1, d.before a0 Z = true) (ws : List Jvm.Cond) (q0 : Int64) (h0 : Heap) (n0 : Nat) (Z0 : n0 ≤ h0.size) :
    MetFree l (⟨"com/example/bounds_for_brokers/boundsforbrokers/tracker/BloomShape", "mix", "(J)J"⟩ : MethodName) (head1 (Jvm.Cond.code (⟨"com/example/bounds_for_brokers/boundsforbrokers/tracker/BloomShape", "mix", "(J)J"⟩ : MethodName) prog_11_method_7_code 4 (some .long) :: ws) ({ frames := 0, cells := 0, slots := 0, locals := 0 } : Room)) (fun a U => a = #[(.long q0)] ∧ Z.Warmed39 U.vm ∧ U.heap = h0) (fun _ _ _ _ _ => True) (fun _ U o U' => ∃ v L, o = .returned v ∧ own_Q4 Z q0 h0 n0 v U'.heap L ∧ FrameEnd U o U' L ({ frames := 0, cells := 0, slots := 0, locals := 0 } : Room).cells ({ frames := 0, cells := 0, slots := 0, locals := 0 } : Room).slots) := by
  refine own_metfree (Q := own_Q4 Z q0 h0 n0) (plainFor_of_name own_pn4) ?_
  intro p e s m below meth c s₁ X0 hx hby hml hret hown hnm hZ e0 G go fin
  have N0 := Fr.nil n0
  refine go _ (s₁.setTop (mkF m 0 #[.val (.long q0), .second, .unset, .unset] [])) (fun t k => castTop (own_ef4 m q0) k) ?_
  refine go _ (s₁.setTop (mkF m 1 #[.val (.long q0), .second, .unset, .unset] [(.long q0)])) (fun t k => XS.lloadN X0.here hx rfl (hb hby d4_0) rfl k) ?_
  refine go _ (s₁.setTop (mkF m 2 #[.val (.long q0), .second, .unset, .unset] [(.long q0), (.long q0)])) (fun t k => XS.lloadN X0.here hx rfl (hb hby d4_1) rfl k) ?_
  refine go _ (s₁.setTop (mkF m 4 #[.val (.long q0), .second, .unset, .unset] [(.int (30 : Int32)), (.long q0), (.long q0)])) (fun t k => XS.bipush X0.here hx rfl (hb hby d4_2) k) ?_
  refine go _ (s₁.setTop (mkF m 5 #[.val (.long q0), .second, .unset, .unset] [(.long ((q0.toUInt64 >>> ((30 : Int32) &&& 0x3f).toInt64.toUInt64).toInt64)), (.long q0)])) (fun t k => XS.lushr X0.here hx rfl (hb hby d4_4) rfl k) ?_
  refine go _ (s₁.setTop (mkF m 6 #[.val (.long q0), .second, .unset, .unset] [(.long (q0 ^^^ ((q0.toUInt64 >>> ((30 : Int32) &&& 0x3f).toInt64.toUInt64).toInt64)))])) (fun t k => XS.lxor X0.here hx rfl (hb hby d4_5) rfl k) ?_
  refine go _ (s₁.setTop (mkF m 9 #[.val (.long q0), .second, .unset, .unset] [(.long (-4658895280553007687 : Int64)), (.long (q0 ^^^ ((q0.toUInt64 >>> ((30 : Int32) &&& 0x3f).toInt64.toUInt64).toInt64)))])) (fun t k => X0.ldc2Long hx hown (mvT hZ (hw _ (List.mem_of_getElem? (i := 26) rfl))) (g := (mkF m 6 #[.val (.long q0), .second, .unset, .unset] [(.long (q0 ^^^ ((q0.toUInt64 >>> ((30 : Int32) &&& 0x3f).toInt64.toUInt64).toInt64)))])) rfl (hb hby d4_6) _ k) ?_
  refine go _ (s₁.setTop (mkF m 10 #[.val (.long q0), .second, .unset, .unset] [(.long ((q0 ^^^ ((q0.toUInt64 >>> ((30 : Int32) &&& 0x3f).toInt64.toUInt64).toInt64)) * (-4658895280553007687 : Int64)))])) (fun t k => XS.lmul X0.here hx rfl (hb hby d4_9) rfl k) ?_
  refine go _ (s₁.setTop (mkF m 11 #[.val (.long q0), .second, .val (.long ((q0 ^^^ ((q0.toUInt64 >>> ((30 : Int32) &&& 0x3f).toInt64.toUInt64).toInt64)) * (-4658895280553007687 : Int64))), .second] [])) (fun t k => XS.lstoreN X0.here hx rfl (hb hby d4_10) rfl (l' := #[.val (.long q0), .second, .val (.long ((q0 ^^^ ((q0.toUInt64 >>> ((30 : Int32) &&& 0x3f).toInt64.toUInt64).toInt64)) * (-4658895280553007687 : Int64))), .second]) rfl k) ?_
  refine go _ (s₁.setTop (mkF m 12 #[.val (.long q0), .second, .val (.long ((q0 ^^^ ((q0.toUInt64 >>> ((30 : Int32) &&& 0x3f).toInt64.toUInt64).toInt64)) * (-4658895280553007687 : Int64))), .second] [(.long ((q0 ^^^ ((q0.toUInt64 >>> ((30 : Int32) &&& 0x3f).toInt64.toUInt64).toInt64)) * (-4658895280553007687 : Int64)))])) (fun t k => XS.lloadN X0.here hx rfl (hb hby d4_11) rfl k) ?_
  refine go _ (s₁.setTop (mkF m 13 #[.val (.long q0), .second, .val (.long ((q0 ^^^ ((q0.toUInt64 >>> ((30 : Int32) &&& 0x3f).toInt64.toUInt64).toInt64)) * (-4658895280553007687 : Int64))), .second] [(.long ((q0 ^^^ ((q0.toUInt64 >>> ((30 : Int32) &&& 0x3f).toInt64.toUInt64).toInt64)) * (-4658895280553007687 : Int64))), (.long ((q0 ^^^ ((q0.toUInt64 >>> ((30 : Int32) &&& 0x3f).toInt64.toUInt64).toInt64)) * (-4658895280553007687 : Int64)))])) (fun t k => XS.lloadN X0.here hx rfl (hb hby d4_12) rfl k) ?_
  refine go _ (s₁.setTop (mkF m 15 #[.val (.long q0), .second, .val (.long ((q0 ^^^ ((q0.toUInt64 >>> ((30 : Int32) &&& 0x3f).toInt64.toUInt64).toInt64)) * (-4658895280553007687 : Int64))), .second] [(.int (27 : Int32)), (.long ((q0 ^^^ ((q0.toUInt64 >>> ((30 : Int32) &&& 0x3f).toInt64.toUInt64).toInt64)) * (-4658895280553007687 : Int64))), (.long ((q0 ^^^ ((q0.toUInt64 >>> ((30 : Int32) &&& 0x3f).toInt64.toUInt64).toInt64)) * (-4658895280553007687 : Int64)))])) (fun t k => XS.bipush X0.here hx rfl (hb hby d4_13) k) ?_
  refine go _ (s₁.setTop (mkF m 16 #[.val (.long q0), .second, .val (.long ((q0 ^^^ ((q0.toUInt64 >>> ((30 : Int32) &&& 0x3f).toInt64.toUInt64).toInt64)) * (-4658895280553007687 : Int64))), .second] [(.long ((((q0 ^^^ ((q0.toUInt64 >>> ((30 : Int32) &&& 0x3f).toInt64.toUInt64).toInt64)) * (-4658895280553007687 : Int64)).toUInt64 >>> ((27 : Int32) &&& 0x3f).toInt64.toUInt64).toInt64)), (.long ((q0 ^^^ ((q0.toUInt64 >>> ((30 : Int32) &&& 0x3f).toInt64.toUInt64).toInt64)) * (-4658895280553007687 : Int64)))])) (fun t k => XS.lushr X0.here hx rfl (hb hby d4_15) rfl k) ?_
  refine go _ (s₁.setTop (mkF m 17 #[.val (.long q0), .second, .val (.long ((q0 ^^^ ((q0.toUInt64 >>> ((30 : Int32) &&& 0x3f).toInt64.toUInt64).toInt64)) * (-4658895280553007687 : Int64))), .second] [(.long (((q0 ^^^ ((q0.toUInt64 >>> ((30 : Int32) &&& 0x3f).toInt64.toUInt64).toInt64)) * (-4658895280553007687 : Int64)) ^^^ ((((q0 ^^^ ((q0.toUInt64 >>> ((30 : Int32) &&& 0x3f).toInt64.toUInt64).toInt64)) * (-4658895280553007687 : Int64)).toUInt64 >>> ((27 : Int32) &&& 0x3f).toInt64.toUInt64).toInt64)))])) (fun t k => XS.lxor X0.here hx rfl (hb hby d4_16) rfl k) ?_
  refine go _ (s₁.setTop (mkF m 20 #[.val (.long q0), .second, .val (.long ((q0 ^^^ ((q0.toUInt64 >>> ((30 : Int32) &&& 0x3f).toInt64.toUInt64).toInt64)) * (-4658895280553007687 : Int64))), .second] [(.long (-7723592293110705685 : Int64)), (.long (((q0 ^^^ ((q0.toUInt64 >>> ((30 : Int32) &&& 0x3f).toInt64.toUInt64).toInt64)) * (-4658895280553007687 : Int64)) ^^^ ((((q0 ^^^ ((q0.toUInt64 >>> ((30 : Int32) &&& 0x3f).toInt64.toUInt64).toInt64)) * (-4658895280553007687 : Int64)).toUInt64 >>> ((27 : Int32) &&& 0x3f).toInt64.toUInt64).toInt64)))])) (fun t k => X0.ldc2Long hx hown (mvT hZ (hw _ (List.mem_of_getElem? (i := 27) rfl))) (g := (mkF m 17 #[.val (.long q0), .second, .val (.long ((q0 ^^^ ((q0.toUInt64 >>> ((30 : Int32) &&& 0x3f).toInt64.toUInt64).toInt64)) * (-4658895280553007687 : Int64))), .second] [(.long (((q0 ^^^ ((q0.toUInt64 >>> ((30 : Int32) &&& 0x3f).toInt64.toUInt64).toInt64)) * (-4658895280553007687 : Int64)) ^^^ ((((q0 ^^^ ((q0.toUInt64 >>> ((30 : Int32) &&& 0x3f).toInt64.toUInt64).toInt64)) * (-4658895280553007687 : Int64)).toUInt64 >>> ((27 : Int32) &&& 0x3f).toInt64.toUInt64).toInt64)))])) rfl (hb hby d4_17) _ k) ?_
  refine go _ (s₁.setTop (mkF m 21 #[.val (.long q0), .second, .val (.long ((q0 ^^^ ((q0.toUInt64 >>> ((30 : Int32) &&& 0x3f).toInt64.toUInt64).toInt64)) * (-4658895280553007687 : Int64))), .second] [(.long ((((q0 ^^^ ((q0.toUInt64 >>> ((30 : Int32) &&& 0x3f).toInt64.toUInt64).toInt64)) * (-4658895280553007687 : Int64)) ^^^ ((((q0 ^^^ ((q0.toUInt64 >>> ((30 : Int32) &&& 0x3f).toInt64.toUInt64).toInt64)) * (-4658895280553007687 : Int64)).toUInt64 >>> ((27 : Int32) &&& 0x3f).toInt64.toUInt64).toInt64)) * (-7723592293110705685 : Int64)))])) (fun t k => XS.lmul X0.here hx rfl (hb hby d4_20) rfl k) ?_
  refine go _ (s₁.setTop (mkF m 22 #[.val (.long q0), .second, .val (.long ((((q0 ^^^ ((q0.toUInt64 >>> ((30 : Int32) &&& 0x3f).toInt64.toUInt64).toInt64)) * (-4658895280553007687 : Int64)) ^^^ ((((q0 ^^^ ((q0.toUInt64 >>> ((30 : Int32) &&& 0x3f).toInt64.toUInt64).toInt64)) * (-4658895280553007687 : Int64)).toUInt64 >>> ((27 : Int32) &&& 0x3f).toInt64.toUInt64).toInt64)) * (-7723592293110705685 : Int64))), .second] [])) (fun t k => XS.lstoreN X0.here hx rfl (hb hby d4_21) rfl (l' := #[.val (.long q0), .second, .val (.long ((((q0 ^^^ ((q0.toUInt64 >>> ((30 : Int32) &&& 0x3f).toInt64.toUInt64).toInt64)) * (-4658895280553007687 : Int64)) ^^^ ((((q0 ^^^ ((q0.toUInt64 >>> ((30 : Int32) &&& 0x3f).toInt64.toUInt64).toInt64)) * (-4658895280553007687 : Int64)).toUInt64 >>> ((27 : Int32) &&& 0x3f).toInt64.toUInt64).toInt64)) * (-7723592293110705685 : Int64))), .second]) rfl k) ?_
  refine go _ (s₁.setTop (mkF m 23 #[.val (.long q0), .second, .val (.long ((((q0 ^^^ ((q0.toUInt64 >>> ((30 : Int32) &&& 0x3f).toInt64.toUInt64).toInt64)) * (-4658895280553007687 : Int64)) ^^^ ((((q0 ^^^ ((q0.toUInt64 >>> ((30 : Int32) &&& 0x3f).toInt64.toUInt64).toInt64)) * (-4658895280553007687 : Int64)).toUInt64 >>> ((27 : Int32) &&& 0x3f).toInt64.toUInt64).toInt64)) * (-7723592293110705685 : Int64))), .second] [(.long ((((q0 ^^^ ((q0.toUInt64 >>> ((30 : Int32) &&& 0x3f).toInt64.toUInt64).toInt64)) * (-4658895280553007687 : Int64)) ^^^ ((((q0 ^^^ ((q0.toUInt64 >>> ((30 : Int32) &&& 0x3f).toInt64.toUInt64).toInt64)) * (-4658895280553007687 : Int64)).toUInt64 >>> ((27 : Int32) &&& 0x3f).toInt64.toUInt64).toInt64)) * (-7723592293110705685 : Int64)))])) (fun t k => XS.lloadN X0.here hx rfl (hb hby d4_22) rfl k) ?_
  refine go _ (s₁.setTop (mkF m 24 #[.val (.long q0), .second, .val (.long ((((q0 ^^^ ((q0.toUInt64 >>> ((30 : Int32) &&& 0x3f).toInt64.toUInt64).toInt64)) * (-4658895280553007687 : Int64)) ^^^ ((((q0 ^^^ ((q0.toUInt64 >>> ((30 : Int32) &&& 0x3f).toInt64.toUInt64).toInt64)) * (-4658895280553007687 : Int64)).toUInt64 >>> ((27 : Int32) &&& 0x3f).toInt64.toUInt64).toInt64)) * (-7723592293110705685 : Int64))), .second] [(.long ((((q0 ^^^ ((q0.toUInt64 >>> ((30 : Int32) &&& 0x3f).toInt64.toUInt64).toInt64)) * (-4658895280553007687 : Int64)) ^^^ ((((q0 ^^^ ((q0.toUInt64 >>> ((30 : Int32) &&& 0x3f).toInt64.toUInt64).toInt64)) * (-4658895280553007687 : Int64)).toUInt64 >>> ((27 : Int32) &&& 0x3f).toInt64.toUInt64).toInt64)) * (-7723592293110705685 : Int64))), (.long ((((q0 ^^^ ((q0.toUInt64 >>> ((30 : Int32) &&& 0x3f).toInt64.toUInt64).toInt64)) * (-4658895280553007687 : Int64)) ^^^ ((((q0 ^^^ ((q0.toUInt64 >>> ((30 : Int32) &&& 0x3f).toInt64.toUInt64).toInt64)) * (-4658895280553007687 : Int64)).toUInt64 >>> ((27 : Int32) &&& 0x3f).toInt64.toUInt64).toInt64)) * (-7723592293110705685 : Int64)))])) (fun t k => XS.lloadN X0.here hx rfl (hb hby d4_23) rfl k) ?_
  refine go _ (s₁.setTop (mkF m 26 #[.val (.long q0), .second, .val (.long ((((q0 ^^^ ((q0.toUInt64 >>> ((30 : Int32) &&& 0x3f).toInt64.toUInt64).toInt64)) * (-4658895280553007687 : Int64)) ^^^ ((((q0 ^^^ ((q0.toUInt64 >>> ((30 : Int32) &&& 0x3f).toInt64.toUInt64).toInt64)) * (-4658895280553007687 : Int64)).toUInt64 >>> ((27 : Int32) &&& 0x3f).toInt64.toUInt64).toInt64)) * (-7723592293110705685 : Int64))), .second] [(.int (31 : Int32)), (.long ((((q0 ^^^ ((q0.toUInt64 >>> ((30 : Int32) &&& 0x3f).toInt64.toUInt64).toInt64)) * (-4658895280553007687 : Int64)) ^^^ ((((q0 ^^^ ((q0.toUInt64 >>> ((30 : Int32) &&& 0x3f).toInt64.toUInt64).toInt64)) * (-4658895280553007687 : Int64)).toUInt64 >>> ((27 : Int32) &&& 0x3f).toInt64.toUInt64).toInt64)) * (-7723592293110705685 : Int64))), (.long ((((q0 ^^^ ((q0.toUInt64 >>> ((30 : Int32) &&& 0x3f).toInt64.toUInt64).toInt64)) * (-4658895280553007687 : Int64)) ^^^ ((((q0 ^^^ ((q0.toUInt64 >>> ((30 : Int32) &&& 0x3f).toInt64.toUInt64).toInt64)) * (-4658895280553007687 : Int64)).toUInt64 >>> ((27 : Int32) &&& 0x3f).toInt64.toUInt64).toInt64)) * (-7723592293110705685 : Int64)))])) (fun t k => XS.bipush X0.here hx rfl (hb hby d4_24) k) ?_
  refine go _ (s₁.setTop (mkF m 27 #[.val (.long q0), .second, .val (.long ((((q0 ^^^ ((q0.toUInt64 >>> ((30 : Int32) &&& 0x3f).toInt64.toUInt64).toInt64)) * (-4658895280553007687 : Int64)) ^^^ ((((q0 ^^^ ((q0.toUInt64 >>> ((30 : Int32) &&& 0x3f).toInt64.toUInt64).toInt64)) * (-4658895280553007687 : Int64)).toUInt64 >>> ((27 : Int32) &&& 0x3f).toInt64.toUInt64).toInt64)) * (-7723592293110705685 : Int64))), .second] [(.long ((((((q0 ^^^ ((q0.toUInt64 >>> ((30 : Int32) &&& 0x3f).toInt64.toUInt64).toInt64)) * (-4658895280553007687 : Int64)) ^^^ ((((q0 ^^^ ((q0.toUInt64 >>> ((30 : Int32) &&& 0x3f).toInt64.toUInt64).toInt64)) * (-4658895280553007687 : Int64)).toUInt64 >>> ((27 : Int32) &&& 0x3f).toInt64.toUInt64).toInt64)) * (-7723592293110705685 : Int64)).toUInt64 >>> ((31 : Int32) &&& 0x3f).toInt64.toUInt64).toInt64)), (.long ((((q0 ^^^ ((q0.toUInt64 >>> ((30 : Int32) &&& 0x3f).toInt64.toUInt64).toInt64)) * (-4658895280553007687 : Int64)) ^^^ ((((q0 ^^^ ((q0.toUInt64 >>> ((30 : Int32) &&& 0x3f).toInt64.toUInt64).toInt64)) * (-4658895280553007687 : Int64)).toUInt64 >>> ((27 : Int32) &&& 0x3f).toInt64.toUInt64).toInt64)) * (-7723592293110705685 : Int64)))])) (fun t k => XS.lushr X0.here hx rfl (hb hby d4_26) rfl k) ?_
  refine go _ (s₁.setTop (mkF m 28 #[.val (.long q0), .second, .val (.long ((((q0 ^^^ ((q0.toUInt64 >>> ((30 : Int32) &&& 0x3f).toInt64.toUInt64).toInt64)) * (-4658895280553007687 : Int64)) ^^^ ((((q0 ^^^ ((q0.toUInt64 >>> ((30 : Int32) &&& 0x3f).toInt64.toUInt64).toInt64)) * (-4658895280553007687 : Int64)).toUInt64 >>> ((27 : Int32) &&& 0x3f).toInt64.toUInt64).toInt64)) * (-7723592293110705685 : Int64))), .second] [(.long (((((q0 ^^^ ((q0.toUInt64 >>> ((30 : Int32) &&& 0x3f).toInt64.toUInt64).toInt64)) * (-4658895280553007687 : Int64)) ^^^ ((((q0 ^^^ ((q0.toUInt64 >>> ((30 : Int32) &&& 0x3f).toInt64.toUInt64).toInt64)) * (-4658895280553007687 : Int64)).toUInt64 >>> ((27 : Int32) &&& 0x3f).toInt64.toUInt64).toInt64)) * (-7723592293110705685 : Int64)) ^^^ ((((((q0 ^^^ ((q0.toUInt64 >>> ((30 : Int32) &&& 0x3f).toInt64.toUInt64).toInt64)) * (-4658895280553007687 : Int64)) ^^^ ((((q0 ^^^ ((q0.toUInt64 >>> ((30 : Int32) &&& 0x3f).toInt64.toUInt64).toInt64)) * (-4658895280553007687 : Int64)).toUInt64 >>> ((27 : Int32) &&& 0x3f).toInt64.toUInt64).toInt64)) * (-7723592293110705685 : Int64)).toUInt64 >>> ((31 : Int32) &&& 0x3f).toInt64.toUInt64).toInt64)))])) (fun t k => XS.lxor X0.here hx rfl (hb hby d4_27) rfl k) ?_
  refine fin (some (.long (((((q0 ^^^ ((q0.toUInt64 >>> ((30 : Int32) &&& 0x3f).toInt64.toUInt64).toInt64)) * (-4658895280553007687 : Int64)) ^^^ ((((q0 ^^^ ((q0.toUInt64 >>> ((30 : Int32) &&& 0x3f).toInt64.toUInt64).toInt64)) * (-4658895280553007687 : Int64)).toUInt64 >>> ((27 : Int32) &&& 0x3f).toInt64.toUInt64).toInt64)) * (-7723592293110705685 : Int64)) ^^^ ((((((q0 ^^^ ((q0.toUInt64 >>> ((30 : Int32) &&& 0x3f).toInt64.toUInt64).toInt64)) * (-4658895280553007687 : Int64)) ^^^ ((((q0 ^^^ ((q0.toUInt64 >>> ((30 : Int32) &&& 0x3f).toInt64.toUInt64).toInt64)) * (-4658895280553007687 : Int64)).toUInt64 >>> ((27 : Int32) &&& 0x3f).toInt64.toUInt64).toInt64)) * (-7723592293110705685 : Int64)).toUInt64 >>> ((31 : Int32) &&& 0x3f).toInt64.toUInt64).toInt64)))) (mkF m 28 #[.val (.long q0), .second, .val (.long ((((q0 ^^^ ((q0.toUInt64 >>> ((30 : Int32) &&& 0x3f).toInt64.toUInt64).toInt64)) * (-4658895280553007687 : Int64)) ^^^ ((((q0 ^^^ ((q0.toUInt64 >>> ((30 : Int32) &&& 0x3f).toInt64.toUInt64).toInt64)) * (-4658895280553007687 : Int64)).toUInt64 >>> ((27 : Int32) &&& 0x3f).toInt64.toUInt64).toInt64)) * (-7723592293110705685 : Int64))), .second] [(.long (((((q0 ^^^ ((q0.toUInt64 >>> ((30 : Int32) &&& 0x3f).toInt64.toUInt64).toInt64)) * (-4658895280553007687 : Int64)) ^^^ ((((q0 ^^^ ((q0.toUInt64 >>> ((30 : Int32) &&& 0x3f).toInt64.toUInt64).toInt64)) * (-4658895280553007687 : Int64)).toUInt64 >>> ((27 : Int32) &&& 0x3f).toInt64.toUInt64).toInt64)) * (-7723592293110705685 : Int64)) ^^^ ((((((q0 ^^^ ((q0.toUInt64 >>> ((30 : Int32) &&& 0x3f).toInt64.toUInt64).toInt64)) * (-4658895280553007687 : Int64)) ^^^ ((((q0 ^^^ ((q0.toUInt64 >>> ((30 : Int32) &&& 0x3f).toInt64.toUInt64).toInt64)) * (-4658895280553007687 : Int64)).toUInt64 >>> ((27 : Int32) &&& 0x3f).toInt64.toUInt64).toInt64)) * (-7723592293110705685 : Int64)).toUInt64 >>> ((31 : Int32) &&& 0x3f).toInt64.toUInt64).toInt64)))]) X0 (fun h => by cases h) (fun fs hr => retOut X0 hx (t := .long) hret rfl (Or.inr (Or.inl ⟨rfl, rfl, _, rfl⟩)) (hb hby d4_28) hr) ?_ (by decide) (by decide)
  try rw [e0]
  exact ⟨rfl, N0, rfl⟩
theorem own_ef8 (m : MethodId) (q0 : Int64) : entryFrame m #[(.long q0)] 4 = mkF m 0 #[.val (.long q0), .second, .unset, .unset] [] := by first | (simp [entryFrame, mkF, argsToLocals, Value.category]; done) | rfl
theorem own_pn8 : plainName "com/example/bounds_for_brokers/boundsforbrokers/tracker/BloomShapeFirstWordPinLaw" = true := by first | (simp [plainName, overriddenIn]; done) | decide +kernel
theorem d8_0 : decode method_2_code 0 = .ok (.lload_n 0, 1) := by decide +kernel
theorem d8_1 : decode method_2_code 1 = .ok (.lload_n 0, 1) := by decide +kernel
theorem d8_2 : decode method_2_code 2 = .ok (.bipush 30, 2) := by decide +kernel
theorem d8_4 : decode method_2_code 4 = .ok (.lushr, 1) := by decide +kernel
theorem d8_5 : decode method_2_code 5 = .ok (.lxor, 1) := by decide +kernel
theorem d8_6 : decode method_2_code 6 = .ok (.ldc2_w 7, 3) := by decide +kernel
theorem d8_9 : decode method_2_code 9 = .ok (.lmul, 1) := by decide +kernel
theorem d8_10 : decode method_2_code 10 = .ok (.lstore_n 2, 1) := by decide +kernel
theorem d8_11 : decode method_2_code 11 = .ok (.lload_n 2, 1) := by decide +kernel
theorem d8_12 : decode method_2_code 12 = .ok (.lload_n 2, 1) := by decide +kernel
theorem d8_13 : decode method_2_code 13 = .ok (.bipush 27, 2) := by decide +kernel
theorem d8_15 : decode method_2_code 15 = .ok (.lushr, 1) := by decide +kernel
theorem d8_16 : decode method_2_code 16 = .ok (.lxor, 1) := by decide +kernel
theorem d8_17 : decode method_2_code 17 = .ok (.ldc2_w 9, 3) := by decide +kernel
theorem d8_20 : decode method_2_code 20 = .ok (.lmul, 1) := by decide +kernel
theorem d8_21 : decode method_2_code 21 = .ok (.lstore_n 2, 1) := by decide +kernel
theorem d8_22 : decode method_2_code 22 = .ok (.lload_n 2, 1) := by decide +kernel
theorem d8_23 : decode method_2_code 23 = .ok (.lload_n 2, 1) := by decide +kernel
theorem d8_24 : decode method_2_code 24 = .ok (.bipush 31, 2) := by decide +kernel
theorem d8_26 : decode method_2_code 26 = .ok (.lushr, 1) := by decide +kernel
theorem d8_27 : decode method_2_code 27 = .ok (.lxor, 1) := by decide +kernel
theorem d8_28 : decode method_2_code 28 = .ok (.lreturn, 1) := by decide +kernel
def own_Q8 (Z : State) (q0 : Int64) (h0 : Heap) (n0 : Nat) (v : Option Value) (h : Heap) (L : List Loc) : Prop := v = some (.long (own_mix q0)) ∧ Fr n0 L ∧ h = h0
set_option maxRecDepth 65536 in
set_option maxHeartbeats 40000000 in
theorem rm8 (l : Launch) (Z : State) (a0 : Array Value) (hw : ∀ d ∈ tables_1, d.before a0 Z = true) (ws : List Jvm.Cond) (q0 : Int64) (h0 : Heap) (n0 : Nat) (Z0 : n0 ≤ h0.size) :
    MetFree l (⟨"com/example/bounds_for_brokers/boundsforbrokers/tracker/BloomShapeFirstWordPinLaw", "mixRef", "(J)J"⟩ : MethodName) (head1 (Jvm.Cond.code (⟨"com/example/bounds_for_brokers/boundsforbrokers/tracker/BloomShapeFirstWordPinLaw", "mixRef", "(J)J"⟩ : MethodName) method_2_code 4 (some .long) :: ws) ({ frames := 0, cells := 0, slots := 0, locals := 0 } : Room)) (fun a U => a = #[(.long q0)] ∧ Z.Warmed39 U.vm ∧ U.heap = h0) (fun _ _ _ _ _ => True) (fun _ U o U' => ∃ v L, o = .returned v ∧ own_Q8 Z q0 h0 n0 v U'.heap L ∧ FrameEnd U o U' L ({ frames := 0, cells := 0, slots := 0, locals := 0 } : Room).cells ({ frames := 0, cells := 0, slots := 0, locals := 0 } : Room).slots) := by
  refine own_metfree (Q := own_Q8 Z q0 h0 n0) (plainFor_of_name own_pn8) ?_
  intro p e s m below meth c s₁ X0 hx hby hml hret hown hnm hZ e0 G go fin
  have N0 := Fr.nil n0
  refine go _ (s₁.setTop (mkF m 0 #[.val (.long q0), .second, .unset, .unset] [])) (fun t k => castTop (own_ef8 m q0) k) ?_
  refine go _ (s₁.setTop (mkF m 1 #[.val (.long q0), .second, .unset, .unset] [(.long q0)])) (fun t k => XS.lloadN X0.here hx rfl (hb hby d8_0) rfl k) ?_
  refine go _ (s₁.setTop (mkF m 2 #[.val (.long q0), .second, .unset, .unset] [(.long q0), (.long q0)])) (fun t k => XS.lloadN X0.here hx rfl (hb hby d8_1) rfl k) ?_
  refine go _ (s₁.setTop (mkF m 4 #[.val (.long q0), .second, .unset, .unset] [(.int (30 : Int32)), (.long q0), (.long q0)])) (fun t k => XS.bipush X0.here hx rfl (hb hby d8_2) k) ?_
  refine go _ (s₁.setTop (mkF m 5 #[.val (.long q0), .second, .unset, .unset] [(.long ((q0.toUInt64 >>> ((30 : Int32) &&& 0x3f).toInt64.toUInt64).toInt64)), (.long q0)])) (fun t k => XS.lushr X0.here hx rfl (hb hby d8_4) rfl k) ?_
  refine go _ (s₁.setTop (mkF m 6 #[.val (.long q0), .second, .unset, .unset] [(.long (q0 ^^^ ((q0.toUInt64 >>> ((30 : Int32) &&& 0x3f).toInt64.toUInt64).toInt64)))])) (fun t k => XS.lxor X0.here hx rfl (hb hby d8_5) rfl k) ?_
  refine go _ (s₁.setTop (mkF m 9 #[.val (.long q0), .second, .unset, .unset] [(.long (-4658895280553007687 : Int64)), (.long (q0 ^^^ ((q0.toUInt64 >>> ((30 : Int32) &&& 0x3f).toInt64.toUInt64).toInt64)))])) (fun t k => X0.ldc2Long hx hown (mvT hZ (hw _ (List.mem_of_getElem? (i := 60) rfl))) (g := (mkF m 6 #[.val (.long q0), .second, .unset, .unset] [(.long (q0 ^^^ ((q0.toUInt64 >>> ((30 : Int32) &&& 0x3f).toInt64.toUInt64).toInt64)))])) rfl (hb hby d8_6) _ k) ?_
  refine go _ (s₁.setTop (mkF m 10 #[.val (.long q0), .second, .unset, .unset] [(.long ((q0 ^^^ ((q0.toUInt64 >>> ((30 : Int32) &&& 0x3f).toInt64.toUInt64).toInt64)) * (-4658895280553007687 : Int64)))])) (fun t k => XS.lmul X0.here hx rfl (hb hby d8_9) rfl k) ?_
  refine go _ (s₁.setTop (mkF m 11 #[.val (.long q0), .second, .val (.long ((q0 ^^^ ((q0.toUInt64 >>> ((30 : Int32) &&& 0x3f).toInt64.toUInt64).toInt64)) * (-4658895280553007687 : Int64))), .second] [])) (fun t k => XS.lstoreN X0.here hx rfl (hb hby d8_10) rfl (l' := #[.val (.long q0), .second, .val (.long ((q0 ^^^ ((q0.toUInt64 >>> ((30 : Int32) &&& 0x3f).toInt64.toUInt64).toInt64)) * (-4658895280553007687 : Int64))), .second]) rfl k) ?_
  refine go _ (s₁.setTop (mkF m 12 #[.val (.long q0), .second, .val (.long ((q0 ^^^ ((q0.toUInt64 >>> ((30 : Int32) &&& 0x3f).toInt64.toUInt64).toInt64)) * (-4658895280553007687 : Int64))), .second] [(.long ((q0 ^^^ ((q0.toUInt64 >>> ((30 : Int32) &&& 0x3f).toInt64.toUInt64).toInt64)) * (-4658895280553007687 : Int64)))])) (fun t k => XS.lloadN X0.here hx rfl (hb hby d8_11) rfl k) ?_
  refine go _ (s₁.setTop (mkF m 13 #[.val (.long q0), .second, .val (.long ((q0 ^^^ ((q0.toUInt64 >>> ((30 : Int32) &&& 0x3f).toInt64.toUInt64).toInt64)) * (-4658895280553007687 : Int64))), .second] [(.long ((q0 ^^^ ((q0.toUInt64 >>> ((30 : Int32) &&& 0x3f).toInt64.toUInt64).toInt64)) * (-4658895280553007687 : Int64))), (.long ((q0 ^^^ ((q0.toUInt64 >>> ((30 : Int32) &&& 0x3f).toInt64.toUInt64).toInt64)) * (-4658895280553007687 : Int64)))])) (fun t k => XS.lloadN X0.here hx rfl (hb hby d8_12) rfl k) ?_
  refine go _ (s₁.setTop (mkF m 15 #[.val (.long q0), .second, .val (.long ((q0 ^^^ ((q0.toUInt64 >>> ((30 : Int32) &&& 0x3f).toInt64.toUInt64).toInt64)) * (-4658895280553007687 : Int64))), .second] [(.int (27 : Int32)), (.long ((q0 ^^^ ((q0.toUInt64 >>> ((30 : Int32) &&& 0x3f).toInt64.toUInt64).toInt64)) * (-4658895280553007687 : Int64))), (.long ((q0 ^^^ ((q0.toUInt64 >>> ((30 : Int32) &&& 0x3f).toInt64.toUInt64).toInt64)) * (-4658895280553007687 : Int64)))])) (fun t k => XS.bipush X0.here hx rfl (hb hby d8_13) k) ?_
  refine go _ (s₁.setTop (mkF m 16 #[.val (.long q0), .second, .val (.long ((q0 ^^^ ((q0.toUInt64 >>> ((30 : Int32) &&& 0x3f).toInt64.toUInt64).toInt64)) * (-4658895280553007687 : Int64))), .second] [(.long ((((q0 ^^^ ((q0.toUInt64 >>> ((30 : Int32) &&& 0x3f).toInt64.toUInt64).toInt64)) * (-4658895280553007687 : Int64)).toUInt64 >>> ((27 : Int32) &&& 0x3f).toInt64.toUInt64).toInt64)), (.long ((q0 ^^^ ((q0.toUInt64 >>> ((30 : Int32) &&& 0x3f).toInt64.toUInt64).toInt64)) * (-4658895280553007687 : Int64)))])) (fun t k => XS.lushr X0.here hx rfl (hb hby d8_15) rfl k) ?_
  refine go _ (s₁.setTop (mkF m 17 #[.val (.long q0), .second, .val (.long ((q0 ^^^ ((q0.toUInt64 >>> ((30 : Int32) &&& 0x3f).toInt64.toUInt64).toInt64)) * (-4658895280553007687 : Int64))), .second] [(.long (((q0 ^^^ ((q0.toUInt64 >>> ((30 : Int32) &&& 0x3f).toInt64.toUInt64).toInt64)) * (-4658895280553007687 : Int64)) ^^^ ((((q0 ^^^ ((q0.toUInt64 >>> ((30 : Int32) &&& 0x3f).toInt64.toUInt64).toInt64)) * (-4658895280553007687 : Int64)).toUInt64 >>> ((27 : Int32) &&& 0x3f).toInt64.toUInt64).toInt64)))])) (fun t k => XS.lxor X0.here hx rfl (hb hby d8_16) rfl k) ?_
  refine go _ (s₁.setTop (mkF m 20 #[.val (.long q0), .second, .val (.long ((q0 ^^^ ((q0.toUInt64 >>> ((30 : Int32) &&& 0x3f).toInt64.toUInt64).toInt64)) * (-4658895280553007687 : Int64))), .second] [(.long (-7723592293110705685 : Int64)), (.long (((q0 ^^^ ((q0.toUInt64 >>> ((30 : Int32) &&& 0x3f).toInt64.toUInt64).toInt64)) * (-4658895280553007687 : Int64)) ^^^ ((((q0 ^^^ ((q0.toUInt64 >>> ((30 : Int32) &&& 0x3f).toInt64.toUInt64).toInt64)) * (-4658895280553007687 : Int64)).toUInt64 >>> ((27 : Int32) &&& 0x3f).toInt64.toUInt64).toInt64)))])) (fun t k => X0.ldc2Long hx hown (mvT hZ (hw _ (List.mem_of_getElem? (i := 61) rfl))) (g := (mkF m 17 #[.val (.long q0), .second, .val (.long ((q0 ^^^ ((q0.toUInt64 >>> ((30 : Int32) &&& 0x3f).toInt64.toUInt64).toInt64)) * (-4658895280553007687 : Int64))), .second] [(.long (((q0 ^^^ ((q0.toUInt64 >>> ((30 : Int32) &&& 0x3f).toInt64.toUInt64).toInt64)) * (-4658895280553007687 : Int64)) ^^^ ((((q0 ^^^ ((q0.toUInt64 >>> ((30 : Int32) &&& 0x3f).toInt64.toUInt64).toInt64)) * (-4658895280553007687 : Int64)).toUInt64 >>> ((27 : Int32) &&& 0x3f).toInt64.toUInt64).toInt64)))])) rfl (hb hby d8_17) _ k) ?_
  refine go _ (s₁.setTop (mkF m 21 #[.val (.long q0), .second, .val (.long ((q0 ^^^ ((q0.toUInt64 >>> ((30 : Int32) &&& 0x3f).toInt64.toUInt64).toInt64)) * (-4658895280553007687 : Int64))), .second] [(.long ((((q0 ^^^ ((q0.toUInt64 >>> ((30 : Int32) &&& 0x3f).toInt64.toUInt64).toInt64)) * (-4658895280553007687 : Int64)) ^^^ ((((q0 ^^^ ((q0.toUInt64 >>> ((30 : Int32) &&& 0x3f).toInt64.toUInt64).toInt64)) * (-4658895280553007687 : Int64)).toUInt64 >>> ((27 : Int32) &&& 0x3f).toInt64.toUInt64).toInt64)) * (-7723592293110705685 : Int64)))])) (fun t k => XS.lmul X0.here hx rfl (hb hby d8_20) rfl k) ?_
  refine go _ (s₁.setTop (mkF m 22 #[.val (.long q0), .second, .val (.long ((((q0 ^^^ ((q0.toUInt64 >>> ((30 : Int32) &&& 0x3f).toInt64.toUInt64).toInt64)) * (-4658895280553007687 : Int64)) ^^^ ((((q0 ^^^ ((q0.toUInt64 >>> ((30 : Int32) &&& 0x3f).toInt64.toUInt64).toInt64)) * (-4658895280553007687 : Int64)).toUInt64 >>> ((27 : Int32) &&& 0x3f).toInt64.toUInt64).toInt64)) * (-7723592293110705685 : Int64))), .second] [])) (fun t k => XS.lstoreN X0.here hx rfl (hb hby d8_21) rfl (l' := #[.val (.long q0), .second, .val (.long ((((q0 ^^^ ((q0.toUInt64 >>> ((30 : Int32) &&& 0x3f).toInt64.toUInt64).toInt64)) * (-4658895280553007687 : Int64)) ^^^ ((((q0 ^^^ ((q0.toUInt64 >>> ((30 : Int32) &&& 0x3f).toInt64.toUInt64).toInt64)) * (-4658895280553007687 : Int64)).toUInt64 >>> ((27 : Int32) &&& 0x3f).toInt64.toUInt64).toInt64)) * (-7723592293110705685 : Int64))), .second]) rfl k) ?_
  refine go _ (s₁.setTop (mkF m 23 #[.val (.long q0), .second, .val (.long ((((q0 ^^^ ((q0.toUInt64 >>> ((30 : Int32) &&& 0x3f).toInt64.toUInt64).toInt64)) * (-4658895280553007687 : Int64)) ^^^ ((((q0 ^^^ ((q0.toUInt64 >>> ((30 : Int32) &&& 0x3f).toInt64.toUInt64).toInt64)) * (-4658895280553007687 : Int64)).toUInt64 >>> ((27 : Int32) &&& 0x3f).toInt64.toUInt64).toInt64)) * (-7723592293110705685 : Int64))), .second] [(.long ((((q0 ^^^ ((q0.toUInt64 >>> ((30 : Int32) &&& 0x3f).toInt64.toUInt64).toInt64)) * (-4658895280553007687 : Int64)) ^^^ ((((q0 ^^^ ((q0.toUInt64 >>> ((30 : Int32) &&& 0x3f).toInt64.toUInt64).toInt64)) * (-4658895280553007687 : Int64)).toUInt64 >>> ((27 : Int32) &&& 0x3f).toInt64.toUInt64).toInt64)) * (-7723592293110705685 : Int64)))])) (fun t k => XS.lloadN X0.here hx rfl (hb hby d8_22) rfl k) ?_
  refine go _ (s₁.setTop (mkF m 24 #[.val (.long q0), .second, .val (.long ((((q0 ^^^ ((q0.toUInt64 >>> ((30 : Int32) &&& 0x3f).toInt64.toUInt64).toInt64)) * (-4658895280553007687 : Int64)) ^^^ ((((q0 ^^^ ((q0.toUInt64 >>> ((30 : Int32) &&& 0x3f).toInt64.toUInt64).toInt64)) * (-4658895280553007687 : Int64)).toUInt64 >>> ((27 : Int32) &&& 0x3f).toInt64.toUInt64).toInt64)) * (-7723592293110705685 : Int64))), .second] [(.long ((((q0 ^^^ ((q0.toUInt64 >>> ((30 : Int32) &&& 0x3f).toInt64.toUInt64).toInt64)) * (-4658895280553007687 : Int64)) ^^^ ((((q0 ^^^ ((q0.toUInt64 >>> ((30 : Int32) &&& 0x3f).toInt64.toUInt64).toInt64)) * (-4658895280553007687 : Int64)).toUInt64 >>> ((27 : Int32) &&& 0x3f).toInt64.toUInt64).toInt64)) * (-7723592293110705685 : Int64))), (.long ((((q0 ^^^ ((q0.toUInt64 >>> ((30 : Int32) &&& 0x3f).toInt64.toUInt64).toInt64)) * (-4658895280553007687 : Int64)) ^^^ ((((q0 ^^^ ((q0.toUInt64 >>> ((30 : Int32) &&& 0x3f).toInt64.toUInt64).toInt64)) * (-4658895280553007687 : Int64)).toUInt64 >>> ((27 : Int32) &&& 0x3f).toInt64.toUInt64).toInt64)) * (-7723592293110705685 : Int64)))])) (fun t k => XS.lloadN X0.here hx rfl (hb hby d8_23) rfl k) ?_
  refine go _ (s₁.setTop (mkF m 26 #[.val (.long q0), .second, .val (.long ((((q0 ^^^ ((q0.toUInt64 >>> ((30 : Int32) &&& 0x3f).toInt64.toUInt64).toInt64)) * (-4658895280553007687 : Int64)) ^^^ ((((q0 ^^^ ((q0.toUInt64 >>> ((30 : Int32) &&& 0x3f).toInt64.toUInt64).toInt64)) * (-4658895280553007687 : Int64)).toUInt64 >>> ((27 : Int32) &&& 0x3f).toInt64.toUInt64).toInt64)) * (-7723592293110705685 : Int64))), .second] [(.int (31 : Int32)), (.long ((((q0 ^^^ ((q0.toUInt64 >>> ((30 : Int32) &&& 0x3f).toInt64.toUInt64).toInt64)) * (-4658895280553007687 : Int64)) ^^^ ((((q0 ^^^ ((q0.toUInt64 >>> ((30 : Int32) &&& 0x3f).toInt64.toUInt64).toInt64)) * (-4658895280553007687 : Int64)).toUInt64 >>> ((27 : Int32) &&& 0x3f).toInt64.toUInt64).toInt64)) * (-7723592293110705685 : Int64))), (.long ((((q0 ^^^ ((q0.toUInt64 >>> ((30 : Int32) &&& 0x3f).toInt64.toUInt64).toInt64)) * (-4658895280553007687 : Int64)) ^^^ ((((q0 ^^^ ((q0.toUInt64 >>> ((30 : Int32) &&& 0x3f).toInt64.toUInt64).toInt64)) * (-4658895280553007687 : Int64)).toUInt64 >>> ((27 : Int32) &&& 0x3f).toInt64.toUInt64).toInt64)) * (-7723592293110705685 : Int64)))])) (fun t k => XS.bipush X0.here hx rfl (hb hby d8_24) k) ?_
  refine go _ (s₁.setTop (mkF m 27 #[.val (.long q0), .second, .val (.long ((((q0 ^^^ ((q0.toUInt64 >>> ((30 : Int32) &&& 0x3f).toInt64.toUInt64).toInt64)) * (-4658895280553007687 : Int64)) ^^^ ((((q0 ^^^ ((q0.toUInt64 >>> ((30 : Int32) &&& 0x3f).toInt64.toUInt64).toInt64)) * (-4658895280553007687 : Int64)).toUInt64 >>> ((27 : Int32) &&& 0x3f).toInt64.toUInt64).toInt64)) * (-7723592293110705685 : Int64))), .second] [(.long ((((((q0 ^^^ ((q0.toUInt64 >>> ((30 : Int32) &&& 0x3f).toInt64.toUInt64).toInt64)) * (-4658895280553007687 : Int64)) ^^^ ((((q0 ^^^ ((q0.toUInt64 >>> ((30 : Int32) &&& 0x3f).toInt64.toUInt64).toInt64)) * (-4658895280553007687 : Int64)).toUInt64 >>> ((27 : Int32) &&& 0x3f).toInt64.toUInt64).toInt64)) * (-7723592293110705685 : Int64)).toUInt64 >>> ((31 : Int32) &&& 0x3f).toInt64.toUInt64).toInt64)), (.long ((((q0 ^^^ ((q0.toUInt64 >>> ((30 : Int32) &&& 0x3f).toInt64.toUInt64).toInt64)) * (-4658895280553007687 : Int64)) ^^^ ((((q0 ^^^ ((q0.toUInt64 >>> ((30 : Int32) &&& 0x3f).toInt64.toUInt64).toInt64)) * (-4658895280553007687 : Int64)).toUInt64 >>> ((27 : Int32) &&& 0x3f).toInt64.toUInt64).toInt64)) * (-7723592293110705685 : Int64)))])) (fun t k => XS.lushr X0.here hx rfl (hb hby d8_26) rfl k) ?_
  refine go _ (s₁.setTop (mkF m 28 #[.val (.long q0), .second, .val (.long ((((q0 ^^^ ((q0.toUInt64 >>> ((30 : Int32) &&& 0x3f).toInt64.toUInt64).toInt64)) * (-4658895280553007687 : Int64)) ^^^ ((((q0 ^^^ ((q0.toUInt64 >>> ((30 : Int32) &&& 0x3f).toInt64.toUInt64).toInt64)) * (-4658895280553007687 : Int64)).toUInt64 >>> ((27 : Int32) &&& 0x3f).toInt64.toUInt64).toInt64)) * (-7723592293110705685 : Int64))), .second] [(.long (((((q0 ^^^ ((q0.toUInt64 >>> ((30 : Int32) &&& 0x3f).toInt64.toUInt64).toInt64)) * (-4658895280553007687 : Int64)) ^^^ ((((q0 ^^^ ((q0.toUInt64 >>> ((30 : Int32) &&& 0x3f).toInt64.toUInt64).toInt64)) * (-4658895280553007687 : Int64)).toUInt64 >>> ((27 : Int32) &&& 0x3f).toInt64.toUInt64).toInt64)) * (-7723592293110705685 : Int64)) ^^^ ((((((q0 ^^^ ((q0.toUInt64 >>> ((30 : Int32) &&& 0x3f).toInt64.toUInt64).toInt64)) * (-4658895280553007687 : Int64)) ^^^ ((((q0 ^^^ ((q0.toUInt64 >>> ((30 : Int32) &&& 0x3f).toInt64.toUInt64).toInt64)) * (-4658895280553007687 : Int64)).toUInt64 >>> ((27 : Int32) &&& 0x3f).toInt64.toUInt64).toInt64)) * (-7723592293110705685 : Int64)).toUInt64 >>> ((31 : Int32) &&& 0x3f).toInt64.toUInt64).toInt64)))])) (fun t k => XS.lxor X0.here hx rfl (hb hby d8_27) rfl k) ?_
  refine fin (some (.long (((((q0 ^^^ ((q0.toUInt64 >>> ((30 : Int32) &&& 0x3f).toInt64.toUInt64).toInt64)) * (-4658895280553007687 : Int64)) ^^^ ((((q0 ^^^ ((q0.toUInt64 >>> ((30 : Int32) &&& 0x3f).toInt64.toUInt64).toInt64)) * (-4658895280553007687 : Int64)).toUInt64 >>> ((27 : Int32) &&& 0x3f).toInt64.toUInt64).toInt64)) * (-7723592293110705685 : Int64)) ^^^ ((((((q0 ^^^ ((q0.toUInt64 >>> ((30 : Int32) &&& 0x3f).toInt64.toUInt64).toInt64)) * (-4658895280553007687 : Int64)) ^^^ ((((q0 ^^^ ((q0.toUInt64 >>> ((30 : Int32) &&& 0x3f).toInt64.toUInt64).toInt64)) * (-4658895280553007687 : Int64)).toUInt64 >>> ((27 : Int32) &&& 0x3f).toInt64.toUInt64).toInt64)) * (-7723592293110705685 : Int64)).toUInt64 >>> ((31 : Int32) &&& 0x3f).toInt64.toUInt64).toInt64)))) (mkF m 28 #[.val (.long q0), .second, .val (.long ((((q0 ^^^ ((q0.toUInt64 >>> ((30 : Int32) &&& 0x3f).toInt64.toUInt64).toInt64)) * (-4658895280553007687 : Int64)) ^^^ ((((q0 ^^^ ((q0.toUInt64 >>> ((30 : Int32) &&& 0x3f).toInt64.toUInt64).toInt64)) * (-4658895280553007687 : Int64)).toUInt64 >>> ((27 : Int32) &&& 0x3f).toInt64.toUInt64).toInt64)) * (-7723592293110705685 : Int64))), .second] [(.long (((((q0 ^^^ ((q0.toUInt64 >>> ((30 : Int32) &&& 0x3f).toInt64.toUInt64).toInt64)) * (-4658895280553007687 : Int64)) ^^^ ((((q0 ^^^ ((q0.toUInt64 >>> ((30 : Int32) &&& 0x3f).toInt64.toUInt64).toInt64)) * (-4658895280553007687 : Int64)).toUInt64 >>> ((27 : Int32) &&& 0x3f).toInt64.toUInt64).toInt64)) * (-7723592293110705685 : Int64)) ^^^ ((((((q0 ^^^ ((q0.toUInt64 >>> ((30 : Int32) &&& 0x3f).toInt64.toUInt64).toInt64)) * (-4658895280553007687 : Int64)) ^^^ ((((q0 ^^^ ((q0.toUInt64 >>> ((30 : Int32) &&& 0x3f).toInt64.toUInt64).toInt64)) * (-4658895280553007687 : Int64)).toUInt64 >>> ((27 : Int32) &&& 0x3f).toInt64.toUInt64).toInt64)) * (-7723592293110705685 : Int64)).toUInt64 >>> ((31 : Int32) &&& 0x3f).toInt64.toUInt64).toInt64)))]) X0 (fun h => by cases h) (fun fs hr => retOut X0 hx (t := .long) hret rfl (Or.inr (Or.inl ⟨rfl, rfl, _, rfl⟩)) (hb hby d8_28) hr) ?_ (by decide) (by decide)
  try rw [e0]
  exact ⟨rfl, N0, rfl⟩
theorem own_ef1 (m : MethodId) (o0 : Addr) : entryFrame m #[(.ref o0)] 1 = mkF m 0 #[.val (.ref o0)] [] := by first | (simp [entryFrame, mkF, argsToLocals, Value.category]; done) | rfl
theorem own_pn1 : plainName "com/example/bounds_for_brokers/boundsforbrokers/tracker/BloomShape$IdBits" = true := by first | (simp [plainName, overriddenIn]; done) | decide +kernel
theorem d1_0 : decode prog_12_method_1_code 0 = .ok (.aload_n 0, 1) := by decide +kernel
theorem d1_1 : decode prog_12_method_1_code 1 = .ok (.invokespecial 3, 3) := by decide +kernel
theorem d1_4 : decode prog_12_method_1_code 4 = .ok (.aload_n 0, 1) := by decide +kernel
theorem d1_5 : decode prog_12_method_1_code 5 = .ok (.bipush 8, 2) := by decide +kernel
theorem d1_7 : decode prog_12_method_1_code 7 = .ok (.newarray .long, 2) := by decide +kernel
theorem d1_9 : decode prog_12_method_1_code 9 = .ok (.putfield 9, 3) := by decide +kernel
theorem d1_12 : decode prog_12_method_1_code 12 = .ok (.return_, 1) := by decide +kernel
def own_Q1 (Z : State) (o0 : Addr) (h0 : Heap) (n0 : Nat) (v : Option Value) (h : Heap) (L : List Loc) : Prop := v = none ∧ Fr n0 L ∧ Keep h0 h [o0] ∧ Exa Z h o0 "com/example/bounds_for_brokers/boundsforbrokers/tracker/BloomShape$IdBits" ∧ Fld Z h o0 "com/example/bounds_for_brokers/boundsforbrokers/tracker/BloomShape$IdBits" "id" "J" (.long (0 : Int64)) ∧ Fld Z h o0 "com/example/bounds_for_brokers/boundsforbrokers/tracker/BloomShape$IdBits" "blockDraw" "J" (.long (0 : Int64)) ∧ Fld Z h o0 "com/example/bounds_for_brokers/boundsforbrokers/tracker/BloomShape$IdBits" "probes" "I" (.int (0 : Int32)) ∧ ∃ bb : Addr, h0.size ≤ bb ∧ Fld Z h o0 "com/example/bounds_for_brokers/boundsforbrokers/tracker/BloomShape$IdBits" "masks" "[J" (.ref bb) ∧ own_Av Z h bb .long 8 (fun _ => .long 0)
set_option maxRecDepth 65536 in
set_option maxHeartbeats 40000000 in
theorem rm1 (l : Launch) (Z : State) (a0 : Array Value) (hw : ∀ d ∈ tables_1, d.before a0 Z = true) (ws : List Jvm.Cond) (o0 : Addr) (h0 : Heap) (n0 : Nat) (Z0 : n0 ≤ h0.size) (P0 : Fld Z h0 o0 "com/example/bounds_for_brokers/boundsforbrokers/tracker/BloomShape$IdBits" "id" "J" (.long (0 : Int64))) (P1 : Fld Z h0 o0 "com/example/bounds_for_brokers/boundsforbrokers/tracker/BloomShape$IdBits" "blockDraw" "J" (.long (0 : Int64))) (P2 : Fld Z h0 o0 "com/example/bounds_for_brokers/boundsforbrokers/tracker/BloomShape$IdBits" "probes" "I" (.int (0 : Int32))) (P3 : Fld Z h0 o0 "com/example/bounds_for_brokers/boundsforbrokers/tracker/BloomShape$IdBits" "masks" "[J" .null) (PE : Exa Z h0 o0 "com/example/bounds_for_brokers/boundsforbrokers/tracker/BloomShape$IdBits") (Pg : n0 ≤ o0) :
    MetFree l (⟨"com/example/bounds_for_brokers/boundsforbrokers/tracker/BloomShape$IdBits", "<init>", "()V"⟩ : MethodName) (head1 (Jvm.Cond.code (⟨"com/example/bounds_for_brokers/boundsforbrokers/tracker/BloomShape$IdBits", "<init>", "()V"⟩ : MethodName) prog_12_method_1_code 1 none :: ws) ({ frames := 1, cells := 1, slots := 8, locals := 12 } : Room)) (fun a U => a = #[(.ref o0)] ∧ Z.Warmed39 U.vm ∧ U.heap = h0) (fun _ _ _ _ _ => True) (fun _ U o U' => ∃ v L, o = .returned v ∧ own_Q1 Z o0 h0 n0 v U'.heap L ∧ FrameEnd U o U' L ({ frames := 1, cells := 1, slots := 8, locals := 12 } : Room).cells ({ frames := 1, cells := 1, slots := 8, locals := 12 } : Room).slots) := by
  refine own_metfree (Q := own_Q1 Z o0 h0 n0) (plainFor_of_name own_pn1) ?_
  intro p e s m below meth c s₁ X0 hx hby hml hret hown hnm hZ e0 G go fin
  have N0 := Fr.nil n0
  refine go _ (s₁.setTop (mkF m 0 #[.val (.ref o0)] [])) (fun t k => castTop (own_ef1 m o0) k) ?_
  refine go _ (s₁.setTop (mkF m 1 #[.val (.ref o0)] [(.ref o0)])) (fun t k => XS.aloadN X0.here hx rfl (hb hby d1_0) rfl rfl k) ?_
  obtain ⟨T1, X1, e1, st1⟩ := initO X0 hx hZ hown (hw _ (List.mem_of_getElem? (i := 8) rfl)) (hw _ (List.mem_of_getElem? (i := 9) rfl)) (hw _ (List.mem_of_getElem? (i := 10) rfl)) e0 (g := (mkF m 1 #[.val (.ref o0)] [(.ref o0)])) rfl (by rw [hml]; rfl) rfl (hb hby d1_1) (by decide) (W := 0) (by show 2 * 0 + _ ≤ _; exact Nat.le_of_eq rfl) (by decide)
  refine go _ (T1.setTop (mkF m 4 #[.val (.ref o0)] [])) st1 ?_
  refine go _ (T1.setTop (mkF m 5 #[.val (.ref o0)] [(.ref o0)])) (fun t k => XS.aloadN X1.here hx rfl (hb hby d1_4) rfl rfl k) ?_
  refine go _ (T1.setTop (mkF m 7 #[.val (.ref o0)] [(.int (8 : Int32)), (.ref o0)])) (fun t k => XS.bipush X1.here hx rfl (hb hby d1_5) k) ?_
  obtain ⟨T2, h2, kk2, X2, e2, E2, Ar2, Ax2, st2⟩ := newPE X1 hx hZ (hw _ (List.mem_of_getElem? (i := 11) rfl)) e1 (g := (mkF m 7 #[.val (.ref o0)] [(.int (8 : Int32)), (.ref o0)])) rfl (hb hby d1_7) rfl (by decide) (cap := 8) (by decide) (by decide) (by decide) (by decide) (ad := "[J") (by first | rfl | decide)
  obtain ⟨b2, gb2⟩ : ∃ z, z = h0.size := ⟨_, rfl⟩
  rw [← gb2] at Ar2 Ax2 st2
  have ne3_o0_b2 : o0 ≠ b2 := Nat.ne_of_lt (Nat.lt_of_lt_of_le PE.lt (Nat.le_of_eq gb2.symm))
  have g_b2 : n0 ≤ b2 := Nat.le_trans Z0 (Nat.le_of_eq gb2.symm)
  have sz_b2 : h0.size ≤ b2 := (Nat.le_of_eq gb2.symm)
  have Av2 : own_Av Z h2 b2 .long 8 (fun _ => (.long 0)) := own_Av.new Ar2 (by decide) (by decide)
  refine go _ (T2.setTop (mkF m 9 #[.val (.ref o0)] [(.ref b2), (.ref o0)])) st2 ?_
  have F4_masks_o0 : Fld Z h2 o0 "com/example/bounds_for_brokers/boundsforbrokers/tracker/BloomShape$IdBits" "masks" "[J" .null := (P3.ext E2)
  have E5_o0 : Exa Z h2 o0 "com/example/bounds_for_brokers/boundsforbrokers/tracker/BloomShape$IdBits" := (PE.ext E2)
  obtain ⟨T6, h6, X6, e6, W6, st6⟩ := putF X2 hx hZ hown (host := "") (Or.inl (hw _ (List.mem_of_getElem? (i := 12) rfl))) Via.refl e2 F4_masks_o0 E5_o0 (Or.inr ⟨(hw _ (List.mem_of_getElem? (i := 13) rfl)), rfl, hnm⟩) (hw _ (List.mem_of_getElem? (i := 3) rfl)) (ty := (.array .long)) (by decide) rfl rfl (g := (mkF m 9 #[.val (.ref o0)] [(.ref b2), (.ref o0)])) rfl rfl (hb hby d1_9)
  have Fw6 : Fld Z h6 o0 "com/example/bounds_for_brokers/boundsforbrokers/tracker/BloomShape$IdBits" "masks" "[J" (.ref b2) := F4_masks_o0.same W6
  have N6 := Fr.snoc X6 N0 Pg
  refine go _ (T6.setTop (mkF m 12 #[.val (.ref o0)] [])) st6 ?_
  have E7_o0 : Exa Z h6 o0 "com/example/bounds_for_brokers/boundsforbrokers/tracker/BloomShape$IdBits" := (E5_o0.wr W6)
  have F8_id_o0 : Fld Z h6 o0 "com/example/bounds_for_brokers/boundsforbrokers/tracker/BloomShape$IdBits" "id" "J" (.long (0 : Int64)) := ((P0.ext E2).other W6 (Or.inr (slot_ne (Or.inl (hw _ (List.mem_of_getElem? (i := 20) rfl))) (Or.inr (hw _ (List.mem_of_getElem? (i := 13) rfl))) (by decide) (t := .long) (t' := (.array .long)) (by decide) (by decide))))
  have F9_blockDraw_o0 : Fld Z h6 o0 "com/example/bounds_for_brokers/boundsforbrokers/tracker/BloomShape$IdBits" "blockDraw" "J" (.long (0 : Int64)) := ((P1.ext E2).other W6 (Or.inr (slot_ne (Or.inl (hw _ (List.mem_of_getElem? (i := 29) rfl))) (Or.inr (hw _ (List.mem_of_getElem? (i := 13) rfl))) (by decide) (t := .long) (t' := (.array .long)) (by decide) (by decide))))
  have F10_probes_o0 : Fld Z h6 o0 "com/example/bounds_for_brokers/boundsforbrokers/tracker/BloomShape$IdBits" "probes" "I" (.int (0 : Int32)) := ((P2.ext E2).other W6 (Or.inr (slot_ne (Or.inl (hw _ (List.mem_of_getElem? (i := 31) rfl))) (Or.inr (hw _ (List.mem_of_getElem? (i := 13) rfl))) (by decide) (t := .int) (t' := (.array .long)) (by decide) (by decide))))
  have A11_b2 : own_Av Z h6 b2 .long 8 (fun _ => (.long 0)) := (Av2.other W6 (Ne.symm ne3_o0_b2))
  refine fin (none) (mkF m 12 #[.val (.ref o0)] []) X6 (fun _ => rfl) (fun fs hr => X6.returnOut hx hret (hb hby d1_12) hr) ?_ (by decide) (by decide)
  try rw [e6]
  exact ⟨rfl, N6, (((Keep.refl h0 [o0]).ext E2).wr W6 (Or.inl (List.mem_of_getElem? (i := 0) rfl))), E7_o0, F8_id_o0, F9_blockDraw_o0, F10_probes_o0, b2, sz_b2, Fw6, A11_b2⟩
theorem own_ef3 (m : MethodId) (o0 : Addr) (q1 : Int64) : entryFrame m #[(.ref o0), (.long q1)] 3 = mkF m 0 #[.val (.ref o0), .val (.long q1), .second] [] := by first | (simp [entryFrame, mkF, argsToLocals, Value.category]; done) | rfl
theorem own_pn3 : plainName "com/example/bounds_for_brokers/boundsforbrokers/tracker/BloomShape$IdBits" = true := by first | (simp [plainName, overriddenIn]; done) | decide +kernel
theorem d3_0 : decode prog_12_method_2_code 0 = .ok (.aload_n 0, 1) := by decide +kernel
theorem d3_1 : decode prog_12_method_2_code 1 = .ok (.lload_n 1, 1) := by decide +kernel
theorem d3_2 : decode prog_12_method_2_code 2 = .ok (.putfield 15, 3) := by decide +kernel
theorem d3_5 : decode prog_12_method_2_code 5 = .ok (.aload_n 0, 1) := by decide +kernel
theorem d3_6 : decode prog_12_method_2_code 6 = .ok (.lload_n 1, 1) := by decide +kernel
theorem d3_7 : decode prog_12_method_2_code 7 = .ok (.ldc2_w 19, 3) := by decide +kernel
theorem d3_10 : decode prog_12_method_2_code 10 = .ok (.ladd, 1) := by decide +kernel
theorem d3_11 : decode prog_12_method_2_code 11 = .ok (.invokestatic 21, 3) := by decide +kernel
theorem own_pd_0 : parseMethodDescriptor "(J)J" = some ⟨[.long], some .long⟩ := by decide +kernel
theorem d3_14 : decode prog_12_method_2_code 14 = .ok (.putfield 25, 3) := by decide +kernel
theorem d3_17 : decode prog_12_method_2_code 17 = .ok (.aload_n 0, 1) := by decide +kernel
theorem d3_18 : decode prog_12_method_2_code 18 = .ok (.iconst 0, 1) := by decide +kernel
theorem d3_19 : decode prog_12_method_2_code 19 = .ok (.putfield 28, 3) := by decide +kernel
theorem d3_22 : decode prog_12_method_2_code 22 = .ok (.aload_n 0, 1) := by decide +kernel
theorem d3_23 : decode prog_12_method_2_code 23 = .ok (.areturn, 1) := by decide +kernel
def own_Q3 (Z : State) (o0 : Addr) (q1 : Int64) (w0 : Int64) (w1 : Int64) (w2 : Int32) (ob : Addr) (h0 : Heap) (n0 : Nat) (v : Option Value) (h : Heap) (L : List Loc) : Prop := v = some (.ref o0) ∧ Fr n0 L ∧ Keep h0 h [o0] ∧ Exa Z h o0 "com/example/bounds_for_brokers/boundsforbrokers/tracker/BloomShape$IdBits" ∧ Fld Z h o0 "com/example/bounds_for_brokers/boundsforbrokers/tracker/BloomShape$IdBits" "id" "J" (.long q1) ∧ Fld Z h o0 "com/example/bounds_for_brokers/boundsforbrokers/tracker/BloomShape$IdBits" "blockDraw" "J" (.long (own_mix (q1 + (-7046029254386353131 : Int64)))) ∧ Fld Z h o0 "com/example/bounds_for_brokers/boundsforbrokers/tracker/BloomShape$IdBits" "probes" "I" (.int (0 : Int32)) ∧ Fld Z h o0 "com/example/bounds_for_brokers/boundsforbrokers/tracker/BloomShape$IdBits" "masks" "[J" (.ref ob)
set_option maxRecDepth 65536 in
set_option maxHeartbeats 40000000 in
theorem rm3 (l : Launch) (Z : State) (a0 : Array Value) (hw : ∀ d ∈ tables_1, d.before a0 Z = true) (ws : List Jvm.Cond) (o0 : Addr) (q1 : Int64) (w0 : Int64) (w1 : Int64) (w2 : Int32) (ob : Addr) (h0 : Heap) (n0 : Nat) (Z0 : n0 ≤ h0.size) (P0 : Fld Z h0 o0 "com/example/bounds_for_brokers/boundsforbrokers/tracker/BloomShape$IdBits" "id" "J" (.long w0)) (P1 : Fld Z h0 o0 "com/example/bounds_for_brokers/boundsforbrokers/tracker/BloomShape$IdBits" "blockDraw" "J" (.long w1)) (P2 : Fld Z h0 o0 "com/example/bounds_for_brokers/boundsforbrokers/tracker/BloomShape$IdBits" "probes" "I" (.int w2)) (PE : Exa Z h0 o0 "com/example/bounds_for_brokers/boundsforbrokers/tracker/BloomShape$IdBits") (Pg : n0 ≤ o0) (P3 : Fld Z h0 o0 "com/example/bounds_for_brokers/boundsforbrokers/tracker/BloomShape$IdBits" "masks" "[J" (.ref ob)) :
    MetFree l (⟨"com/example/bounds_for_brokers/boundsforbrokers/tracker/BloomShape$IdBits", "of", "(J)Lcom/example/bounds_for_brokers/boundsforbrokers/tracker/BloomShape$IdBits;"⟩ : MethodName) (head1 (Jvm.Cond.code (⟨"com/example/bounds_for_brokers/boundsforbrokers/tracker/BloomShape$IdBits", "of", "(J)Lcom/example/bounds_for_brokers/boundsforbrokers/tracker/BloomShape$IdBits;"⟩ : MethodName) prog_12_method_2_code 3 (some (.object "com/example/bounds_for_brokers/boundsforbrokers/tracker/BloomShape$IdBits")) :: ws) ({ frames := 1, cells := 0, slots := 0, locals := 16 } : Room)) (fun a U => a = #[(.ref o0), (.long q1)] ∧ Z.Warmed39 U.vm ∧ U.heap = h0) (fun _ _ _ _ _ => True) (fun _ U o U' => ∃ v L, o = .returned v ∧ own_Q3 Z o0 q1 w0 w1 w2 ob h0 n0 v U'.heap L ∧ FrameEnd U o U' L ({ frames := 1, cells := 0, slots := 0, locals := 16 } : Room).cells ({ frames := 1, cells := 0, slots := 0, locals := 16 } : Room).slots) := by
  refine own_metfree (Q := own_Q3 Z o0 q1 w0 w1 w2 ob h0 n0) (plainFor_of_name own_pn3) ?_
  intro p e s m below meth c s₁ X0 hx hby hml hret hown hnm hZ e0 G go fin
  have N0 := Fr.nil n0
  refine go _ (s₁.setTop (mkF m 0 #[.val (.ref o0), .val (.long q1), .second] [])) (fun t k => castTop (own_ef3 m o0 q1) k) ?_
  refine go _ (s₁.setTop (mkF m 1 #[.val (.ref o0), .val (.long q1), .second] [(.ref o0)])) (fun t k => XS.aloadN X0.here hx rfl (hb hby d3_0) rfl rfl k) ?_
  refine go _ (s₁.setTop (mkF m 2 #[.val (.ref o0), .val (.long q1), .second] [(.long q1), (.ref o0)])) (fun t k => XS.lloadN X0.here hx rfl (hb hby d3_1) rfl k) ?_
  obtain ⟨T1, h1, X1, e1, W1, st1⟩ := putF X0 hx hZ hown (host := "") (Or.inl (hw _ (List.mem_of_getElem? (i := 19) rfl))) Via.refl e0 P0 PE (Or.inl (hw _ (List.mem_of_getElem? (i := 20) rfl))) (hw _ (List.mem_of_getElem? (i := 3) rfl)) (ty := .long) (by decide) rfl rfl (g := (mkF m 2 #[.val (.ref o0), .val (.long q1), .second] [(.long q1), (.ref o0)])) rfl rfl (hb hby d3_2)
  have Fw1 : Fld Z h1 o0 "com/example/bounds_for_brokers/boundsforbrokers/tracker/BloomShape$IdBits" "id" "J" (.long q1) := P0.same W1
  have N1 := Fr.snoc X1 N0 Pg
  refine go _ (T1.setTop (mkF m 5 #[.val (.ref o0), .val (.long q1), .second] [])) st1 ?_
  refine go _ (T1.setTop (mkF m 6 #[.val (.ref o0), .val (.long q1), .second] [(.ref o0)])) (fun t k => XS.aloadN X1.here hx rfl (hb hby d3_5) rfl rfl k) ?_
  refine go _ (T1.setTop (mkF m 7 #[.val (.ref o0), .val (.long q1), .second] [(.long q1), (.ref o0)])) (fun t k => XS.lloadN X1.here hx rfl (hb hby d3_6) rfl k) ?_
  refine go _ (T1.setTop (mkF m 10 #[.val (.ref o0), .val (.long q1), .second] [(.long (-7046029254386353131 : Int64)), (.long q1), (.ref o0)])) (fun t k => X1.ldc2Long hx hown (mvT hZ (hw _ (List.mem_of_getElem? (i := 21) rfl))) (g := (mkF m 7 #[.val (.ref o0), .val (.long q1), .second] [(.long q1), (.ref o0)])) rfl (hb hby d3_7) _ k) ?_
  refine go _ (T1.setTop (mkF m 11 #[.val (.ref o0), .val (.long q1), .second] [(.long (q1 + (-7046029254386353131 : Int64))), (.ref o0)])) (fun t k => XS.ladd X1.here hx rfl (hb hby d3_10) rfl k) ?_
  have Z2z : n0 ≤ h1.size := (Nat.le_trans Z0 (Keep.of_wr W1).1)
  obtain ⟨_, _, ⟨T3, L3, k3, n3⟩, -, X3, ⟨Lc3, hQ3, l3, y3, z3⟩, st3⟩ := callSN X1 hx (y := (⟨"com/example/bounds_for_brokers/boundsforbrokers/tracker/BloomShape", "mix", "(J)J"⟩ : MethodName)) hown (own_mvNest hZ (hw _ (List.mem_of_getElem? (i := 22) rfl))) (mvT hZ (hw _ (List.mem_of_getElem? (i := 23) rfl))) (mvT hZ (hw _ (List.mem_of_getElem? (i := 24) rfl))) (mvT hZ (hw _ (List.mem_of_getElem? (i := 25) rfl))) (by decide) (backOf (W := 1) (rm4 l Z a0 hw [] (q1 + (-7046029254386353131 : Int64)) h1 n0 Z2z) hZ (hw _ (List.mem_of_getElem? (i := 25) rfl)) (hw _ (List.mem_of_getElem? (i := 24) rfl)) (by decide) (by decide)) (g := (mkF m 11 #[.val (.ref o0), .val (.long q1), .second] [(.long (q1 + (-7046029254386353131 : Int64))), (.ref o0)])) rfl (by rw [hml]; rfl) (argsL := [(.long (q1 + (-7046029254386353131 : Int64)))]) (rest := [(.ref o0)]) (lenOf own_pd_0 rfl) rfl (by show 2 * 0 + _ ≤ _; exact Nat.le_of_eq rfl) (hb hby d3_11) (fun _ _ => ⟨rfl, e1, (by decide : 0 + 0 ≤ _), (by decide : 0 + 0 ≤ _)⟩)
  dsimp only [Pt.U, Pt.locs, Pt.cells, Pt.slots] at X3 l3 y3 z3 st3 hQ3
  subst l3 y3 z3
  obtain ⟨rfl, Nq3, eq3⟩ := hQ3
  have N3 := Fr.app N1 Nq3
  refine go _ (T3.setTop (mkF m 14 #[.val (.ref o0), .val (.long q1), .second] [(.long (own_mix (q1 + (-7046029254386353131 : Int64)))), (.ref o0)])) (fun t k => st3.trans k) ?_
  have F4_blockDraw_o0 : Fld Z h1 o0 "com/example/bounds_for_brokers/boundsforbrokers/tracker/BloomShape$IdBits" "blockDraw" "J" (.long w1) := (P1.other W1 (Or.inr (slot_ne (Or.inl (hw _ (List.mem_of_getElem? (i := 29) rfl))) (Or.inl (hw _ (List.mem_of_getElem? (i := 20) rfl))) (by decide) (t := .long) (t' := .long) (by decide) (by decide))))
  have E5_o0 : Exa Z h1 o0 "com/example/bounds_for_brokers/boundsforbrokers/tracker/BloomShape$IdBits" := (PE.wr W1)
  obtain ⟨T6, h6, X6, e6, W6, st6⟩ := putF X3 hx hZ hown (host := "") (Or.inl (hw _ (List.mem_of_getElem? (i := 28) rfl))) Via.refl eq3 F4_blockDraw_o0 E5_o0 (Or.inl (hw _ (List.mem_of_getElem? (i := 29) rfl))) (hw _ (List.mem_of_getElem? (i := 3) rfl)) (ty := .long) (by decide) rfl rfl (g := (mkF m 14 #[.val (.ref o0), .val (.long q1), .second] [(.long (own_mix (q1 + (-7046029254386353131 : Int64)))), (.ref o0)])) rfl rfl (hb hby d3_14)
  have Fw6 : Fld Z h6 o0 "com/example/bounds_for_brokers/boundsforbrokers/tracker/BloomShape$IdBits" "blockDraw" "J" (.long (own_mix (q1 + (-7046029254386353131 : Int64)))) := F4_blockDraw_o0.same W6
  have N6 := Fr.snoc X6 N3 Pg
  refine go _ (T6.setTop (mkF m 17 #[.val (.ref o0), .val (.long q1), .second] [])) st6 ?_
  refine go _ (T6.setTop (mkF m 18 #[.val (.ref o0), .val (.long q1), .second] [(.ref o0)])) (fun t k => XS.aloadN X6.here hx rfl (hb hby d3_17) rfl rfl k) ?_
  refine go _ (T6.setTop (mkF m 19 #[.val (.ref o0), .val (.long q1), .second] [(.int (0 : Int32)), (.ref o0)])) (fun t k => XS.iconst X6.here hx rfl (hb hby d3_18) k) ?_
  have F7_probes_o0 : Fld Z h6 o0 "com/example/bounds_for_brokers/boundsforbrokers/tracker/BloomShape$IdBits" "probes" "I" (.int w2) := ((P2.other W1 (Or.inr (slot_ne (Or.inl (hw _ (List.mem_of_getElem? (i := 31) rfl))) (Or.inl (hw _ (List.mem_of_getElem? (i := 20) rfl))) (by decide) (t := .int) (t' := .long) (by decide) (by decide)))).other W6 (Or.inr (slot_ne (Or.inl (hw _ (List.mem_of_getElem? (i := 31) rfl))) (Or.inl (hw _ (List.mem_of_getElem? (i := 29) rfl))) (by decide) (t := .int) (t' := .long) (by decide) (by decide))))
  have E8_o0 : Exa Z h6 o0 "com/example/bounds_for_brokers/boundsforbrokers/tracker/BloomShape$IdBits" := (E5_o0.wr W6)
  obtain ⟨T9, h9, X9, e9, W9, st9⟩ := putF X6 hx hZ hown (host := "") (Or.inl (hw _ (List.mem_of_getElem? (i := 30) rfl))) Via.refl e6 F7_probes_o0 E8_o0 (Or.inl (hw _ (List.mem_of_getElem? (i := 31) rfl))) (hw _ (List.mem_of_getElem? (i := 3) rfl)) (ty := .int) (by decide) rfl rfl (g := (mkF m 19 #[.val (.ref o0), .val (.long q1), .second] [(.int (0 : Int32)), (.ref o0)])) rfl rfl (hb hby d3_19)
  have Fw9 : Fld Z h9 o0 "com/example/bounds_for_brokers/boundsforbrokers/tracker/BloomShape$IdBits" "probes" "I" (.int (0 : Int32)) := F7_probes_o0.same W9
  have N9 := Fr.snoc X9 N6 Pg
  refine go _ (T9.setTop (mkF m 22 #[.val (.ref o0), .val (.long q1), .second] [])) st9 ?_
  refine go _ (T9.setTop (mkF m 23 #[.val (.ref o0), .val (.long q1), .second] [(.ref o0)])) (fun t k => XS.aloadN X9.here hx rfl (hb hby d3_22) rfl rfl k) ?_
  have E10_o0 : Exa Z h9 o0 "com/example/bounds_for_brokers/boundsforbrokers/tracker/BloomShape$IdBits" := (E8_o0.wr W9)
  have F11_id_o0 : Fld Z h9 o0 "com/example/bounds_for_brokers/boundsforbrokers/tracker/BloomShape$IdBits" "id" "J" (.long q1) := ((Fw1.other W6 (Or.inr (slot_ne (Or.inl (hw _ (List.mem_of_getElem? (i := 20) rfl))) (Or.inl (hw _ (List.mem_of_getElem? (i := 29) rfl))) (by decide) (t := .long) (t' := .long) (by decide) (by decide)))).other W9 (Or.inr (slot_ne (Or.inl (hw _ (List.mem_of_getElem? (i := 20) rfl))) (Or.inl (hw _ (List.mem_of_getElem? (i := 31) rfl))) (by decide) (t := .long) (t' := .int) (by decide) (by decide))))
  have F12_blockDraw_o0 : Fld Z h9 o0 "com/example/bounds_for_brokers/boundsforbrokers/tracker/BloomShape$IdBits" "blockDraw" "J" (.long (own_mix (q1 + (-7046029254386353131 : Int64)))) := (Fw6.other W9 (Or.inr (slot_ne (Or.inl (hw _ (List.mem_of_getElem? (i := 29) rfl))) (Or.inl (hw _ (List.mem_of_getElem? (i := 31) rfl))) (by decide) (t := .long) (t' := .int) (by decide) (by decide))))
  have F13_masks_o0 : Fld Z h9 o0 "com/example/bounds_for_brokers/boundsforbrokers/tracker/BloomShape$IdBits" "masks" "[J" (.ref ob) := (((P3.other W1 (Or.inr (slot_ne (Or.inr (hw _ (List.mem_of_getElem? (i := 13) rfl))) (Or.inl (hw _ (List.mem_of_getElem? (i := 20) rfl))) (by decide) (t := (.array .long)) (t' := .long) (by decide) (by decide)))).other W6 (Or.inr (slot_ne (Or.inr (hw _ (List.mem_of_getElem? (i := 13) rfl))) (Or.inl (hw _ (List.mem_of_getElem? (i := 29) rfl))) (by decide) (t := (.array .long)) (t' := .long) (by decide) (by decide)))).other W9 (Or.inr (slot_ne (Or.inr (hw _ (List.mem_of_getElem? (i := 13) rfl))) (Or.inl (hw _ (List.mem_of_getElem? (i := 31) rfl))) (by decide) (t := (.array .long)) (t' := .int) (by decide) (by decide))))
  refine fin (some (.ref o0)) (mkF m 23 #[.val (.ref o0), .val (.long q1), .second] [(.ref o0)]) X9 (fun h => by cases h) (fun fs hr => retOut X9 hx (t := (.object "com/example/bounds_for_brokers/boundsforbrokers/tracker/BloomShape$IdBits")) hret rfl (Or.inr (Or.inr (Or.inr (Or.inr ⟨rfl, rfl, rfl⟩)))) (hb hby d3_23) hr) ?_ (by decide) (by decide)
  try rw [e9]
  exact ⟨rfl, N9, ((((Keep.refl h0 [o0]).wr W1 (Or.inl (List.mem_of_getElem? (i := 0) rfl))).wr W6 (Or.inl (List.mem_of_getElem? (i := 0) rfl))).wr W9 (Or.inl (List.mem_of_getElem? (i := 0) rfl))), E10_o0, F11_id_o0, F12_blockDraw_o0, Fw9, F13_masks_o0⟩
theorem own_ef6 (m : MethodId) (o0 : Addr) : entryFrame m #[(.ref o0)] 1 = mkF m 0 #[.val (.ref o0)] [] := by first | (simp [entryFrame, mkF, argsToLocals, Value.category]; done) | rfl
theorem own_pn6 : plainName "java/lang/Record" = true := by first | (simp [plainName, overriddenIn]; done) | decide +kernel
theorem d6_0 : decode jdk_30_method_1_code 0 = .ok (.aload_n 0, 1) := by decide +kernel
theorem d6_1 : decode jdk_30_method_1_code 1 = .ok (.invokespecial 1, 3) := by decide +kernel
theorem d6_4 : decode jdk_30_method_1_code 4 = .ok (.return_, 1) := by decide +kernel
def own_Q6 (Z : State) (o0 : Addr) (h0 : Heap) (n0 : Nat) (v : Option Value) (h : Heap) (L : List Loc) : Prop := v = none ∧ Fr n0 L ∧ h = h0
set_option maxRecDepth 65536 in
set_option maxHeartbeats 40000000 in
theorem rm6 (l : Launch) (Z : State) (a0 : Array Value) (hw : ∀ d ∈ tables_1, d.before a0 Z = true) (ws : List Jvm.Cond) (o0 : Addr) (h0 : Heap) (n0 : Nat) (Z0 : n0 ≤ h0.size) :
    MetFree l (⟨"java/lang/Record", "<init>", "()V"⟩ : MethodName) (head1 (Jvm.Cond.code (⟨"java/lang/Record", "<init>", "()V"⟩ : MethodName) jdk_30_method_1_code 1 none :: ws) ({ frames := 1, cells := 0, slots := 0, locals := 12 } : Room)) (fun a U => a = #[(.ref o0)] ∧ Z.Warmed39 U.vm ∧ U.heap = h0) (fun _ _ _ _ _ => True) (fun _ U o U' => ∃ v L, o = .returned v ∧ own_Q6 Z o0 h0 n0 v U'.heap L ∧ FrameEnd U o U' L ({ frames := 1, cells := 0, slots := 0, locals := 12 } : Room).cells ({ frames := 1, cells := 0, slots := 0, locals := 12 } : Room).slots) := by
  refine own_metfree (Q := own_Q6 Z o0 h0 n0) (plainFor_of_name own_pn6) ?_
  intro p e s m below meth c s₁ X0 hx hby hml hret hown hnm hZ e0 G go fin
  have N0 := Fr.nil n0
  refine go _ (s₁.setTop (mkF m 0 #[.val (.ref o0)] [])) (fun t k => castTop (own_ef6 m o0) k) ?_
  refine go _ (s₁.setTop (mkF m 1 #[.val (.ref o0)] [(.ref o0)])) (fun t k => XS.aloadN X0.here hx rfl (hb hby d6_0) rfl rfl k) ?_
  obtain ⟨T1, X1, e1, st1⟩ := initO X0 hx hZ hown (hw _ (List.mem_of_getElem? (i := 42) rfl)) (hw _ (List.mem_of_getElem? (i := 9) rfl)) (hw _ (List.mem_of_getElem? (i := 10) rfl)) e0 (g := (mkF m 1 #[.val (.ref o0)] [(.ref o0)])) rfl (by rw [hml]; rfl) rfl (hb hby d6_1) (by decide) (W := 0) (by show 2 * 0 + _ ≤ _; exact Nat.le_of_eq rfl) (by decide)
  refine go _ (T1.setTop (mkF m 4 #[.val (.ref o0)] [])) st1 ?_
  refine fin (none) (mkF m 4 #[.val (.ref o0)] []) X1 (fun _ => rfl) (fun fs hr => X1.returnOut hx hret (hb hby d6_4) hr) ?_ (by decide) (by decide)
  try rw [e1]
  exact ⟨rfl, N0, rfl⟩
theorem own_ef5 (m : MethodId) (o0 : Addr) (p1 : Int32) (p2 : Int32) (p3 : Int32) : entryFrame m #[(.ref o0), (.int p1), (.int p2), (.int p3)] 4 = mkF m 0 #[.val (.ref o0), .val (.int p1), .val (.int p2), .val (.int p3)] [] := by first | (simp [entryFrame, mkF, argsToLocals, Value.category]; done) | rfl
theorem own_pn5 : plainName "com/example/bounds_for_brokers/boundsforbrokers/tracker/BloomShape" = true := by first | (simp [plainName, overriddenIn]; done) | decide +kernel
theorem d5_0 : decode prog_11_method_1_code 0 = .ok (.aload_n 0, 1) := by decide +kernel
theorem d5_1 : decode prog_11_method_1_code 1 = .ok (.invokespecial 7, 3) := by decide +kernel
theorem own_pd_1 : parseMethodDescriptor "()V" = some ⟨[], none⟩ := by decide +kernel
theorem d5_4 : decode prog_11_method_1_code 4 = .ok (.aload_n 0, 1) := by decide +kernel
theorem d5_5 : decode prog_11_method_1_code 5 = .ok (.iload_n 1, 1) := by decide +kernel
theorem d5_6 : decode prog_11_method_1_code 6 = .ok (.putfield 13, 3) := by decide +kernel
theorem d5_9 : decode prog_11_method_1_code 9 = .ok (.aload_n 0, 1) := by decide +kernel
theorem d5_10 : decode prog_11_method_1_code 10 = .ok (.iload_n 2, 1) := by decide +kernel
theorem d5_11 : decode prog_11_method_1_code 11 = .ok (.putfield 17, 3) := by decide +kernel
theorem d5_14 : decode prog_11_method_1_code 14 = .ok (.aload_n 0, 1) := by decide +kernel
theorem d5_15 : decode prog_11_method_1_code 15 = .ok (.iload_n 3, 1) := by decide +kernel
theorem d5_16 : decode prog_11_method_1_code 16 = .ok (.putfield 20, 3) := by decide +kernel
theorem d5_19 : decode prog_11_method_1_code 19 = .ok (.return_, 1) := by decide +kernel
def own_Q5 (Z : State) (o0 : Addr) (p1 : Int32) (p2 : Int32) (p3 : Int32) (h0 : Heap) (n0 : Nat) (v : Option Value) (h : Heap) (L : List Loc) : Prop := v = none ∧ Fr n0 L ∧ Keep h0 h [o0] ∧ Exa Z h o0 "com/example/bounds_for_brokers/boundsforbrokers/tracker/BloomShape" ∧ Fld Z h o0 "com/example/bounds_for_brokers/boundsforbrokers/tracker/BloomShape" "ids" "I" (.int p1) ∧ Fld Z h o0 "com/example/bounds_for_brokers/boundsforbrokers/tracker/BloomShape" "blocks" "I" (.int p2) ∧ Fld Z h o0 "com/example/bounds_for_brokers/boundsforbrokers/tracker/BloomShape" "probes" "I" (.int p3)
set_option maxRecDepth 65536 in
set_option maxHeartbeats 40000000 in
theorem rm5 (l : Launch) (Z : State) (a0 : Array Value) (hw : ∀ d ∈ tables_1, d.before a0 Z = true) (ws : List Jvm.Cond) (o0 : Addr) (p1 : Int32) (p2 : Int32) (p3 : Int32) (h0 : Heap) (n0 : Nat) (Z0 : n0 ≤ h0.size) (P0 : Fld Z h0 o0 "com/example/bounds_for_brokers/boundsforbrokers/tracker/BloomShape" "ids" "I" (.int (0 : Int32))) (P1 : Fld Z h0 o0 "com/example/bounds_for_brokers/boundsforbrokers/tracker/BloomShape" "blocks" "I" (.int (0 : Int32))) (P2 : Fld Z h0 o0 "com/example/bounds_for_brokers/boundsforbrokers/tracker/BloomShape" "probes" "I" (.int (0 : Int32))) (PE : Exa Z h0 o0 "com/example/bounds_for_brokers/boundsforbrokers/tracker/BloomShape") (Pg : n0 ≤ o0) :
    MetFree l (⟨"com/example/bounds_for_brokers/boundsforbrokers/tracker/BloomShape", "<init>", "(III)V"⟩ : MethodName) (head1 (Jvm.Cond.code (⟨"com/example/bounds_for_brokers/boundsforbrokers/tracker/BloomShape", "<init>", "(III)V"⟩ : MethodName) prog_11_method_1_code 4 none :: ws) ({ frames := 2, cells := 0, slots := 0, locals := 24 } : Room)) (fun a U => a = #[(.ref o0), (.int p1), (.int p2), (.int p3)] ∧ Z.Warmed39 U.vm ∧ U.heap = h0) (fun _ _ _ _ _ => True) (fun _ U o U' => ∃ v L, o = .returned v ∧ own_Q5 Z o0 p1 p2 p3 h0 n0 v U'.heap L ∧ FrameEnd U o U' L ({ frames := 2, cells := 0, slots := 0, locals := 24 } : Room).cells ({ frames := 2, cells := 0, slots := 0, locals := 24 } : Room).slots) := by
  refine own_metfree (Q := own_Q5 Z o0 p1 p2 p3 h0 n0) (plainFor_of_name own_pn5) ?_
  intro p e s m below meth c s₁ X0 hx hby hml hret hown hnm hZ e0 G go fin
  have N0 := Fr.nil n0
  refine go _ (s₁.setTop (mkF m 0 #[.val (.ref o0), .val (.int p1), .val (.int p2), .val (.int p3)] [])) (fun t k => castTop (own_ef5 m o0 p1 p2 p3) k) ?_
  refine go _ (s₁.setTop (mkF m 1 #[.val (.ref o0), .val (.int p1), .val (.int p2), .val (.int p3)] [(.ref o0)])) (fun t k => XS.aloadN X0.here hx rfl (hb hby d5_0) rfl rfl k) ?_
  obtain ⟨_, _, ⟨T1, L1, k1, n1⟩, -, X1, ⟨Lc1, hQ1, l1, y1, z1⟩, st1⟩ := X0.specialBack hx (y := (⟨"java/lang/Record", "<init>", "()V"⟩ : MethodName)) rfl hown (mvT hZ (hw _ (List.mem_of_getElem? (i := 37) rfl))) (mvT hZ (hw _ (List.mem_of_getElem? (i := 38) rfl))) (mvT hZ (hw _ (List.mem_of_getElem? (i := 41) rfl))) (by decide) (backOf (W := 0) (rm6 l Z a0 hw [] o0 h0 n0 Z0) hZ (hw _ (List.mem_of_getElem? (i := 41) rfl)) (hw _ (List.mem_of_getElem? (i := 40) rfl)) (by decide) (by decide)) (g := (mkF m 1 #[.val (.ref o0), .val (.int p1), .val (.int p2), .val (.int p3)] [(.ref o0)])) rfl (by rw [hml]; rfl) (Steps.refl _) (a := o0) (argsL := []) (rest := []) (lenOf own_pd_1 rfl) rfl (by show 2 * 0 + _ ≤ _; exact Nat.le_of_eq rfl) (hb hby d5_1) (fun _ _ => ⟨rfl, e0, (by decide : 0 + 0 ≤ _), (by decide : 0 + 0 ≤ _)⟩)
  dsimp only [Pt.U, Pt.locs, Pt.cells, Pt.slots] at X1 l1 y1 z1 st1 hQ1
  subst l1 y1 z1
  obtain ⟨rfl, Nq1, eq1⟩ := hQ1
  have N1 := Fr.app N0 Nq1
  refine go _ (T1.setTop (mkF m 4 #[.val (.ref o0), .val (.int p1), .val (.int p2), .val (.int p3)] [])) (fun t k => st1.trans k) ?_
  refine go _ (T1.setTop (mkF m 5 #[.val (.ref o0), .val (.int p1), .val (.int p2), .val (.int p3)] [(.ref o0)])) (fun t k => XS.aloadN X1.here hx rfl (hb hby d5_4) rfl rfl k) ?_
  refine go _ (T1.setTop (mkF m 6 #[.val (.ref o0), .val (.int p1), .val (.int p2), .val (.int p3)] [(.int p1), (.ref o0)])) (fun t k => XS.iloadN X1.here hx rfl (hb hby d5_5) rfl k) ?_
  obtain ⟨T2, h2, X2, e2, W2, st2⟩ := putF X1 hx hZ hown (host := "") (Or.inl (hw _ (List.mem_of_getElem? (i := 43) rfl))) Via.refl eq1 P0 PE (Or.inr ⟨(hw _ (List.mem_of_getElem? (i := 44) rfl)), rfl, hnm⟩) (hw _ (List.mem_of_getElem? (i := 33) rfl)) (ty := .int) (by decide) rfl rfl (g := (mkF m 6 #[.val (.ref o0), .val (.int p1), .val (.int p2), .val (.int p3)] [(.int p1), (.ref o0)])) rfl rfl (hb hby d5_6)
  have Fw2 : Fld Z h2 o0 "com/example/bounds_for_brokers/boundsforbrokers/tracker/BloomShape" "ids" "I" (.int p1) := P0.same W2
  have N2 := Fr.snoc X2 N1 Pg
  refine go _ (T2.setTop (mkF m 9 #[.val (.ref o0), .val (.int p1), .val (.int p2), .val (.int p3)] [])) st2 ?_
  refine go _ (T2.setTop (mkF m 10 #[.val (.ref o0), .val (.int p1), .val (.int p2), .val (.int p3)] [(.ref o0)])) (fun t k => XS.aloadN X2.here hx rfl (hb hby d5_9) rfl rfl k) ?_
  refine go _ (T2.setTop (mkF m 11 #[.val (.ref o0), .val (.int p1), .val (.int p2), .val (.int p3)] [(.int p2), (.ref o0)])) (fun t k => XS.iloadN X2.here hx rfl (hb hby d5_10) rfl k) ?_
  have F3_blocks_o0 : Fld Z h2 o0 "com/example/bounds_for_brokers/boundsforbrokers/tracker/BloomShape" "blocks" "I" (.int (0 : Int32)) := (P1.other W2 (Or.inr (slot_ne (Or.inr (hw _ (List.mem_of_getElem? (i := 46) rfl))) (Or.inr (hw _ (List.mem_of_getElem? (i := 44) rfl))) (by decide) (t := .int) (t' := .int) (by decide) (by decide))))
  have E4_o0 : Exa Z h2 o0 "com/example/bounds_for_brokers/boundsforbrokers/tracker/BloomShape" := (PE.wr W2)
  obtain ⟨T5, h5, X5, e5, W5, st5⟩ := putF X2 hx hZ hown (host := "") (Or.inl (hw _ (List.mem_of_getElem? (i := 45) rfl))) Via.refl e2 F3_blocks_o0 E4_o0 (Or.inr ⟨(hw _ (List.mem_of_getElem? (i := 46) rfl)), rfl, hnm⟩) (hw _ (List.mem_of_getElem? (i := 33) rfl)) (ty := .int) (by decide) rfl rfl (g := (mkF m 11 #[.val (.ref o0), .val (.int p1), .val (.int p2), .val (.int p3)] [(.int p2), (.ref o0)])) rfl rfl (hb hby d5_11)
  have Fw5 : Fld Z h5 o0 "com/example/bounds_for_brokers/boundsforbrokers/tracker/BloomShape" "blocks" "I" (.int p2) := F3_blocks_o0.same W5
  have N5 := Fr.snoc X5 N2 Pg
  refine go _ (T5.setTop (mkF m 14 #[.val (.ref o0), .val (.int p1), .val (.int p2), .val (.int p3)] [])) st5 ?_
  refine go _ (T5.setTop (mkF m 15 #[.val (.ref o0), .val (.int p1), .val (.int p2), .val (.int p3)] [(.ref o0)])) (fun t k => XS.aloadN X5.here hx rfl (hb hby d5_14) rfl rfl k) ?_
  refine go _ (T5.setTop (mkF m 16 #[.val (.ref o0), .val (.int p1), .val (.int p2), .val (.int p3)] [(.int p3), (.ref o0)])) (fun t k => XS.iloadN X5.here hx rfl (hb hby d5_15) rfl k) ?_
  have F6_probes_o0 : Fld Z h5 o0 "com/example/bounds_for_brokers/boundsforbrokers/tracker/BloomShape" "probes" "I" (.int (0 : Int32)) := ((P2.other W2 (Or.inr (slot_ne (Or.inr (hw _ (List.mem_of_getElem? (i := 48) rfl))) (Or.inr (hw _ (List.mem_of_getElem? (i := 44) rfl))) (by decide) (t := .int) (t' := .int) (by decide) (by decide)))).other W5 (Or.inr (slot_ne (Or.inr (hw _ (List.mem_of_getElem? (i := 48) rfl))) (Or.inr (hw _ (List.mem_of_getElem? (i := 46) rfl))) (by decide) (t := .int) (t' := .int) (by decide) (by decide))))
  have E7_o0 : Exa Z h5 o0 "com/example/bounds_for_brokers/boundsforbrokers/tracker/BloomShape" := (E4_o0.wr W5)
  obtain ⟨T8, h8, X8, e8, W8, st8⟩ := putF X5 hx hZ hown (host := "") (Or.inl (hw _ (List.mem_of_getElem? (i := 47) rfl))) Via.refl e5 F6_probes_o0 E7_o0 (Or.inr ⟨(hw _ (List.mem_of_getElem? (i := 48) rfl)), rfl, hnm⟩) (hw _ (List.mem_of_getElem? (i := 33) rfl)) (ty := .int) (by decide) rfl rfl (g := (mkF m 16 #[.val (.ref o0), .val (.int p1), .val (.int p2), .val (.int p3)] [(.int p3), (.ref o0)])) rfl rfl (hb hby d5_16)
  have Fw8 : Fld Z h8 o0 "com/example/bounds_for_brokers/boundsforbrokers/tracker/BloomShape" "probes" "I" (.int p3) := F6_probes_o0.same W8
  have N8 := Fr.snoc X8 N5 Pg
  refine go _ (T8.setTop (mkF m 19 #[.val (.ref o0), .val (.int p1), .val (.int p2), .val (.int p3)] [])) st8 ?_
  have E9_o0 : Exa Z h8 o0 "com/example/bounds_for_brokers/boundsforbrokers/tracker/BloomShape" := (E7_o0.wr W8)
  have F10_ids_o0 : Fld Z h8 o0 "com/example/bounds_for_brokers/boundsforbrokers/tracker/BloomShape" "ids" "I" (.int p1) := ((Fw2.other W5 (Or.inr (slot_ne (Or.inr (hw _ (List.mem_of_getElem? (i := 44) rfl))) (Or.inr (hw _ (List.mem_of_getElem? (i := 46) rfl))) (by decide) (t := .int) (t' := .int) (by decide) (by decide)))).other W8 (Or.inr (slot_ne (Or.inr (hw _ (List.mem_of_getElem? (i := 44) rfl))) (Or.inr (hw _ (List.mem_of_getElem? (i := 48) rfl))) (by decide) (t := .int) (t' := .int) (by decide) (by decide))))
  have F11_blocks_o0 : Fld Z h8 o0 "com/example/bounds_for_brokers/boundsforbrokers/tracker/BloomShape" "blocks" "I" (.int p2) := (Fw5.other W8 (Or.inr (slot_ne (Or.inr (hw _ (List.mem_of_getElem? (i := 46) rfl))) (Or.inr (hw _ (List.mem_of_getElem? (i := 48) rfl))) (by decide) (t := .int) (t' := .int) (by decide) (by decide))))
  refine fin (none) (mkF m 19 #[.val (.ref o0), .val (.int p1), .val (.int p2), .val (.int p3)] []) X8 (fun _ => rfl) (fun fs hr => X8.returnOut hx hret (hb hby d5_19) hr) ?_ (by decide) (by decide)
  try rw [e8]
  exact ⟨rfl, N8, ((((Keep.refl h0 [o0]).wr W2 (Or.inl (List.mem_of_getElem? (i := 0) rfl))).wr W5 (Or.inl (List.mem_of_getElem? (i := 0) rfl))).wr W8 (Or.inl (List.mem_of_getElem? (i := 0) rfl))), E9_o0, F10_ids_o0, F11_blocks_o0, Fw8⟩
theorem own_ef7 (m : MethodId) (o0 : Addr) (o1 : Addr) : entryFrame m #[(.ref o0), (.ref o1)] 2 = mkF m 0 #[.val (.ref o0), .val (.ref o1)] [] := by first | (simp [entryFrame, mkF, argsToLocals, Value.category]; done) | rfl
theorem own_pn7 : plainName "com/example/bounds_for_brokers/boundsforbrokers/tracker/BloomShape" = true := by first | (simp [plainName, overriddenIn]; done) | decide +kernel
theorem d7_0 : decode prog_11_method_4_code 0 = .ok (.aload_n 1, 1) := by decide +kernel
theorem d7_1 : decode prog_11_method_4_code 1 = .ok (.getfield 84, 3) := by decide +kernel
theorem d7_4 : decode prog_11_method_4_code 4 = .ok (.bipush 32, 2) := by decide +kernel
theorem d7_6 : decode prog_11_method_4_code 6 = .ok (.lushr, 1) := by decide +kernel
theorem d7_7 : decode prog_11_method_4_code 7 = .ok (.aload_n 0, 1) := by decide +kernel
theorem d7_8 : decode prog_11_method_4_code 8 = .ok (.getfield 17, 3) := by decide +kernel
theorem d7_11 : decode prog_11_method_4_code 11 = .ok (.i2l, 1) := by decide +kernel
theorem d7_12 : decode prog_11_method_4_code 12 = .ok (.lmul, 1) := by decide +kernel
theorem d7_13 : decode prog_11_method_4_code 13 = .ok (.bipush 32, 2) := by decide +kernel
theorem d7_15 : decode prog_11_method_4_code 15 = .ok (.lushr, 1) := by decide +kernel
theorem d7_16 : decode prog_11_method_4_code 16 = .ok (.l2i, 1) := by decide +kernel
theorem d7_17 : decode prog_11_method_4_code 17 = .ok (.bipush 8, 2) := by decide +kernel
theorem d7_19 : decode prog_11_method_4_code 19 = .ok (.imul, 1) := by decide +kernel
theorem d7_20 : decode prog_11_method_4_code 20 = .ok (.ireturn, 1) := by decide +kernel
def own_Q7 (Z : State) (o0 : Addr) (o1 : Addr) (w0 : Int64) (w1 : Int32) (h0 : Heap) (n0 : Nat) (v : Option Value) (h : Heap) (L : List Loc) : Prop := v = some (.int (own_fw w0 w1)) ∧ Fr n0 L ∧ h = h0
set_option maxRecDepth 65536 in
set_option maxHeartbeats 40000000 in
theorem rm7 (l : Launch) (Z : State) (a0 : Array Value) (hw : ∀ d ∈ tables_1, d.before a0 Z = true) (ws : List Jvm.Cond) (o0 : Addr) (o1 : Addr) (w0 : Int64) (w1 : Int32) (h0 : Heap) (n0 : Nat) (Z0 : n0 ≤ h0.size) (P0 : Fld Z h0 o1 "com/example/bounds_for_brokers/boundsforbrokers/tracker/BloomShape$IdBits" "blockDraw" "J" (.long w0)) (P1 : Fld Z h0 o0 "com/example/bounds_for_brokers/boundsforbrokers/tracker/BloomShape" "blocks" "I" (.int w1)) :
    MetFree l (⟨"com/example/bounds_for_brokers/boundsforbrokers/tracker/BloomShape", "firstWord", "(Lcom/example/bounds_for_brokers/boundsforbrokers/tracker/BloomShape$IdBits;)I"⟩ : MethodName) (head1 (Jvm.Cond.code (⟨"com/example/bounds_for_brokers/boundsforbrokers/tracker/BloomShape", "firstWord", "(Lcom/example/bounds_for_brokers/boundsforbrokers/tracker/BloomShape$IdBits;)I"⟩ : MethodName) prog_11_method_4_code 2 (some .int) :: ws) ({ frames := 0, cells := 0, slots := 0, locals := 0 } : Room)) (fun a U => a = #[(.ref o0), (.ref o1)] ∧ Z.Warmed39 U.vm ∧ U.heap = h0) (fun _ _ _ _ _ => True) (fun _ U o U' => ∃ v L, o = .returned v ∧ own_Q7 Z o0 o1 w0 w1 h0 n0 v U'.heap L ∧ FrameEnd U o U' L ({ frames := 0, cells := 0, slots := 0, locals := 0 } : Room).cells ({ frames := 0, cells := 0, slots := 0, locals := 0 } : Room).slots) := by
  refine own_metfree (Q := own_Q7 Z o0 o1 w0 w1 h0 n0) (plainFor_of_name own_pn7) ?_
  intro p e s m below meth c s₁ X0 hx hby hml hret hown hnm hZ e0 G go fin
  have N0 := Fr.nil n0
  refine go _ (s₁.setTop (mkF m 0 #[.val (.ref o0), .val (.ref o1)] [])) (fun t k => castTop (own_ef7 m o0 o1) k) ?_
  refine go _ (s₁.setTop (mkF m 1 #[.val (.ref o0), .val (.ref o1)] [(.ref o1)])) (fun t k => XS.aloadN X0.here hx rfl (hb hby d7_0) rfl rfl k) ?_
  refine go _ (s₁.setTop (mkF m 4 #[.val (.ref o0), .val (.ref o1)] [(.long w0)])) (fun t k => own_getR X0 hx hZ hown (hw _ (List.mem_of_getElem? (i := 54) rfl)) e0 P0 (g := (mkF m 1 #[.val (.ref o0), .val (.ref o1)] [(.ref o1)])) rfl rfl (hb hby d7_1) _ k) ?_
  refine go _ (s₁.setTop (mkF m 6 #[.val (.ref o0), .val (.ref o1)] [(.int (32 : Int32)), (.long w0)])) (fun t k => XS.bipush X0.here hx rfl (hb hby d7_4) k) ?_
  refine go _ (s₁.setTop (mkF m 7 #[.val (.ref o0), .val (.ref o1)] [(.long ((w0.toUInt64 >>> ((32 : Int32) &&& 0x3f).toInt64.toUInt64).toInt64))])) (fun t k => XS.lushr X0.here hx rfl (hb hby d7_6) rfl k) ?_
  refine go _ (s₁.setTop (mkF m 8 #[.val (.ref o0), .val (.ref o1)] [(.ref o0), (.long ((w0.toUInt64 >>> ((32 : Int32) &&& 0x3f).toInt64.toUInt64).toInt64))])) (fun t k => XS.aloadN X0.here hx rfl (hb hby d7_7) rfl rfl k) ?_
  obtain ⟨T2, X2, e2, st2⟩ := getF X0 hx hZ hown (host := "") (Or.inl (hw _ (List.mem_of_getElem? (i := 45) rfl))) Via.refl e0 P1 (g := (mkF m 8 #[.val (.ref o0), .val (.ref o1)] [(.ref o0), (.long ((w0.toUInt64 >>> ((32 : Int32) &&& 0x3f).toInt64.toUInt64).toInt64))])) rfl rfl (hb hby d7_8)
  refine go _ (T2.setTop (mkF m 11 #[.val (.ref o0), .val (.ref o1)] [(.int w1), (.long ((w0.toUInt64 >>> ((32 : Int32) &&& 0x3f).toInt64.toUInt64).toInt64))])) st2 ?_
  refine go _ (T2.setTop (mkF m 12 #[.val (.ref o0), .val (.ref o1)] [(.long (w1.toInt64)), (.long ((w0.toUInt64 >>> ((32 : Int32) &&& 0x3f).toInt64.toUInt64).toInt64))])) (fun t k => XS.i2l X2.here hx rfl (hb hby d7_11) rfl k) ?_
  refine go _ (T2.setTop (mkF m 13 #[.val (.ref o0), .val (.ref o1)] [(.long (((w0.toUInt64 >>> ((32 : Int32) &&& 0x3f).toInt64.toUInt64).toInt64) * (w1.toInt64)))])) (fun t k => XS.lmul X2.here hx rfl (hb hby d7_12) rfl k) ?_
  refine go _ (T2.setTop (mkF m 15 #[.val (.ref o0), .val (.ref o1)] [(.int (32 : Int32)), (.long (((w0.toUInt64 >>> ((32 : Int32) &&& 0x3f).toInt64.toUInt64).toInt64) * (w1.toInt64)))])) (fun t k => XS.bipush X2.here hx rfl (hb hby d7_13) k) ?_
  refine go _ (T2.setTop (mkF m 16 #[.val (.ref o0), .val (.ref o1)] [(.long (((((w0.toUInt64 >>> ((32 : Int32) &&& 0x3f).toInt64.toUInt64).toInt64) * (w1.toInt64)).toUInt64 >>> ((32 : Int32) &&& 0x3f).toInt64.toUInt64).toInt64))])) (fun t k => XS.lushr X2.here hx rfl (hb hby d7_15) rfl k) ?_
  refine go _ (T2.setTop (mkF m 17 #[.val (.ref o0), .val (.ref o1)] [(.int ((((((w0.toUInt64 >>> ((32 : Int32) &&& 0x3f).toInt64.toUInt64).toInt64) * (w1.toInt64)).toUInt64 >>> ((32 : Int32) &&& 0x3f).toInt64.toUInt64).toInt64).toInt32))])) (fun t k => XS.l2i X2.here hx rfl (hb hby d7_16) rfl k) ?_
  refine go _ (T2.setTop (mkF m 19 #[.val (.ref o0), .val (.ref o1)] [(.int (8 : Int32)), (.int ((((((w0.toUInt64 >>> ((32 : Int32) &&& 0x3f).toInt64.toUInt64).toInt64) * (w1.toInt64)).toUInt64 >>> ((32 : Int32) &&& 0x3f).toInt64.toUInt64).toInt64).toInt32))])) (fun t k => XS.bipush X2.here hx rfl (hb hby d7_17) k) ?_
  refine go _ (T2.setTop (mkF m 20 #[.val (.ref o0), .val (.ref o1)] [(.int (((((((w0.toUInt64 >>> ((32 : Int32) &&& 0x3f).toInt64.toUInt64).toInt64) * (w1.toInt64)).toUInt64 >>> ((32 : Int32) &&& 0x3f).toInt64.toUInt64).toInt64).toInt32) * (8 : Int32)))])) (fun t k => XS.imul X2.here hx rfl (hb hby d7_19) rfl k) ?_
  refine fin (some (.int (((((((w0.toUInt64 >>> ((32 : Int32) &&& 0x3f).toInt64.toUInt64).toInt64) * (w1.toInt64)).toUInt64 >>> ((32 : Int32) &&& 0x3f).toInt64.toUInt64).toInt64).toInt32) * (8 : Int32)))) (mkF m 20 #[.val (.ref o0), .val (.ref o1)] [(.int (((((((w0.toUInt64 >>> ((32 : Int32) &&& 0x3f).toInt64.toUInt64).toInt64) * (w1.toInt64)).toUInt64 >>> ((32 : Int32) &&& 0x3f).toInt64.toUInt64).toInt64).toInt32) * (8 : Int32)))]) X2 (fun h => by cases h) (fun fs hr => retOut X2 hx (t := .int) hret rfl (Or.inl ⟨rfl, by simp, _, rfl⟩) (hb hby d7_20) hr) ?_ (by decide) (by decide)
  try rw [e2]
  exact ⟨rfl, N0, rfl⟩
theorem own_ef0 (m : MethodId) (q0 : Int64) (p2 : Int32) : entryFrame m #[(.long q0), (.int p2)] maxLocals = mkF m 0 #[.val (.long q0), .second, .val (.int p2), .unset, .unset, .unset, .unset, .unset, .unset, .unset, .unset, .unset, .unset, .unset, .unset, .unset] [] := by first | (simp [entryFrame, mkF, argsToLocals, Value.category, maxLocals]; done) | rfl
theorem own_pn0 : plainName "com/example/bounds_for_brokers/boundsforbrokers/tracker/BloomShapeFirstWordPinLaw" = true := by first | (simp [plainName, overriddenIn]; done) | decide +kernel
theorem own_pd_2 : parseMethodDescriptor "(J)Lcom/example/bounds_for_brokers/boundsforbrokers/tracker/BloomShape$IdBits;" = some ⟨[.long], some (.object "com/example/bounds_for_brokers/boundsforbrokers/tracker/BloomShape$IdBits")⟩ := by decide +kernel
theorem own_pd_3 : parseMethodDescriptor "(III)V" = some ⟨[.int, .int, .int], none⟩ := by decide +kernel
theorem own_pd_4 : parseMethodDescriptor "(Lcom/example/bounds_for_brokers/boundsforbrokers/tracker/BloomShape$IdBits;)I" = some ⟨[(.object "com/example/bounds_for_brokers/boundsforbrokers/tracker/BloomShape$IdBits")], some .int⟩ := by decide +kernel
def own_Q0 (Z : State) (q0 : Int64) (p2 : Int32) (h0 : Heap) (n0 : Nat) (v : Option Value) (h : Heap) (L : List Loc) : Prop := v = some (.int 1) ∧ Fr n0 L
set_option maxRecDepth 65536 in
set_option maxHeartbeats 40000000 in
theorem rm0 (l : Launch) (Z : State) (a0 : Array Value) (hw : ∀ d ∈ tables_1, d.before a0 Z = true) (ws : List Jvm.Cond) (q0 : Int64) (p2 : Int32) (h0 : Heap) (n0 : Nat) (Z0 : n0 ≤ h0.size) :
    MetFree l x (head1 (Jvm.Cond.code x code maxLocals ret :: ws) room_1) (fun a U => a = #[(.long q0), (.int p2)] ∧ Z.Warmed39 U.vm ∧ U.heap = h0) (fun _ _ _ _ _ => True) (fun _ U o U' => ∃ v L, o = .returned v ∧ own_Q0 Z q0 p2 h0 n0 v U'.heap L ∧ FrameEnd U o U' L room_1.cells room_1.slots) := by
  refine own_metfree (Q := own_Q0 Z q0 p2 h0 n0) (plainFor_of_name own_pn0) ?_
  intro p e s m below meth c s₁ X0 hx hby hml hret hown hnm hZ e0 G go fin
  have N0 := Fr.nil n0
  refine go _ (s₁.setTop (mkF m 0 #[.val (.long q0), .second, .val (.int p2), .unset, .unset, .unset, .unset, .unset, .unset, .unset, .unset, .unset, .unset, .unset, .unset, .unset] [])) (fun t k => castTop (own_ef0 m q0 p2) k) ?_
  refine go _ (s₁.setTop (mkF m 2 #[.val (.long q0), .second, .val (.int p2), .unset, .unset, .unset, .unset, .unset, .unset, .unset, .unset, .unset, .unset, .unset, .unset, .unset] [(.int (4194303 : Int32))])) (fun t k => X0.ldcInt hx hown (mvT hZ (hw _ (List.mem_of_getElem? (i := 0) rfl))) (g := (mkF m 0 #[.val (.long q0), .second, .val (.int p2), .unset, .unset, .unset, .unset, .unset, .unset, .unset, .unset, .unset, .unset, .unset, .unset, .unset] [])) rfl (hb hby at_0) _ k) ?_
  refine go _ (s₁.setTop (mkF m 3 #[.val (.long q0), .second, .val (.int p2), .val (.int (4194303 : Int32)), .unset, .unset, .unset, .unset, .unset, .unset, .unset, .unset, .unset, .unset, .unset, .unset] [])) (fun t k => XS.istoreN X0.here hx rfl (hb hby at_2) rfl (l' := #[.val (.long q0), .second, .val (.int p2), .val (.int (4194303 : Int32)), .unset, .unset, .unset, .unset, .unset, .unset, .unset, .unset, .unset, .unset, .unset, .unset]) rfl k) ?_
  refine go _ (s₁.setTop (mkF m 4 #[.val (.long q0), .second, .val (.int p2), .val (.int (4194303 : Int32)), .unset, .unset, .unset, .unset, .unset, .unset, .unset, .unset, .unset, .unset, .unset, .unset] [(.int (1 : Int32))])) (fun t k => XS.iconst X0.here hx rfl (hb hby at_3) k) ?_
  refine go _ (s₁.setTop (mkF m 5 #[.val (.long q0), .second, .val (.int p2), .val (.int (4194303 : Int32)), .unset, .unset, .unset, .unset, .unset, .unset, .unset, .unset, .unset, .unset, .unset, .unset] [(.int p2), (.int (1 : Int32))])) (fun t k => XS.iloadN X0.here hx rfl (hb hby at_4) rfl k) ?_
  refine go _ (s₁.setTop (mkF m 7 #[.val (.long q0), .second, .val (.int p2), .val (.int (4194303 : Int32)), .unset, .unset, .unset, .unset, .unset, .unset, .unset, .unset, .unset, .unset, .unset, .unset] [(.int (2147483647 : Int32)), (.int p2), (.int (1 : Int32))])) (fun t k => X0.ldcInt hx hown (mvT hZ (hw _ (List.mem_of_getElem? (i := 1) rfl))) (g := (mkF m 5 #[.val (.long q0), .second, .val (.int p2), .val (.int (4194303 : Int32)), .unset, .unset, .unset, .unset, .unset, .unset, .unset, .unset, .unset, .unset, .unset, .unset] [(.int p2), (.int (1 : Int32))])) rfl (hb hby at_5) _ k) ?_
  refine go _ (s₁.setTop (mkF m 8 #[.val (.long q0), .second, .val (.int p2), .val (.int (4194303 : Int32)), .unset, .unset, .unset, .unset, .unset, .unset, .unset, .unset, .unset, .unset, .unset, .unset] [(.int (p2 &&& (2147483647 : Int32))), (.int (1 : Int32))])) (fun t k => XS.iand X0.here hx rfl (hb hby at_7) rfl k) ?_
  refine go _ (s₁.setTop (mkF m 9 #[.val (.long q0), .second, .val (.int p2), .val (.int (4194303 : Int32)), .unset, .unset, .unset, .unset, .unset, .unset, .unset, .unset, .unset, .unset, .unset, .unset] [(.int (4194303 : Int32)), (.int (p2 &&& (2147483647 : Int32))), (.int (1 : Int32))])) (fun t k => XS.iloadN X0.here hx rfl (hb hby at_8) rfl k) ?_
  refine go _ (s₁.setTop (mkF m 10 #[.val (.long q0), .second, .val (.int p2), .val (.int (4194303 : Int32)), .unset, .unset, .unset, .unset, .unset, .unset, .unset, .unset, .unset, .unset, .unset, .unset] [(.int ((p2 &&& (2147483647 : Int32)) % (4194303 : Int32))), (.int (1 : Int32))])) (fun t k => iremM X0 hx rfl (hb hby at_9) rfl (show (4194303 : Int32) ≠ 0 from by decide) k) ?_
  refine go _ (s₁.setTop (mkF m 11 #[.val (.long q0), .second, .val (.int p2), .val (.int (4194303 : Int32)), .unset, .unset, .unset, .unset, .unset, .unset, .unset, .unset, .unset, .unset, .unset, .unset] [(.int ((1 : Int32) + ((p2 &&& (2147483647 : Int32)) % (4194303 : Int32))))])) (fun t k => XS.iadd X0.here hx rfl (hb hby at_10) rfl k) ?_
  generalize hv_vb : ((1 : Int32) + ((p2 &&& (2147483647 : Int32)) % (4194303 : Int32))) = vb
  have hvb := own_blocks p2
  rw [hv_vb] at hvb
  refine go _ (s₁.setTop (mkF m 13 #[.val (.long q0), .second, .val (.int p2), .val (.int (4194303 : Int32)), .val (.int vb), .unset, .unset, .unset, .unset, .unset, .unset, .unset, .unset, .unset, .unset, .unset] [])) (fun t k => XS.istore X0.here hx rfl (hb hby at_11) rfl (l' := #[.val (.long q0), .second, .val (.int p2), .val (.int (4194303 : Int32)), .val (.int vb), .unset, .unset, .unset, .unset, .unset, .unset, .unset, .unset, .unset, .unset, .unset]) rfl k) ?_
  obtain ⟨T1, h1, X1, e1, E1, Ax1, D1, -, st1⟩ := newO X0 hx hZ hown (hw _ (List.mem_of_getElem? (i := 2) rfl)) (hw _ (List.mem_of_getElem? (i := 3) rfl)) (hw _ (List.mem_of_getElem? (i := 4) rfl)) e0 (g := (mkF m 13 #[.val (.long q0), .second, .val (.int p2), .val (.int (4194303 : Int32)), .val (.int vb), .unset, .unset, .unset, .unset, .unset, .unset, .unset, .unset, .unset, .unset, .unset] [])) rfl (hb hby at_13) (by decide) (by decide)
  obtain ⟨b1, gb1⟩ : ∃ z, z = h0.size := ⟨_, rfl⟩
  rw [← gb1] at Ax1 D1 st1
  have g_b1 : n0 ≤ b1 := Nat.le_trans Z0 (Nat.le_of_eq gb1.symm)
  have sz_b1 : h0.size ≤ b1 := (Nat.le_of_eq gb1.symm)
  have F_masks_b1 : Fld Z h1 b1 "com/example/bounds_for_brokers/boundsforbrokers/tracker/BloomShape$IdBits" "masks" "[J" .null := D1 (Or.inr (hw _ (List.mem_of_getElem? (i := 13) rfl))) (ty := (.array .long)) (by decide)
  have F_id_b1 : Fld Z h1 b1 "com/example/bounds_for_brokers/boundsforbrokers/tracker/BloomShape$IdBits" "id" "J" (.long (0 : Int64)) := D1 (Or.inl (hw _ (List.mem_of_getElem? (i := 20) rfl))) (ty := .long) (by decide)
  have F_blockDraw_b1 : Fld Z h1 b1 "com/example/bounds_for_brokers/boundsforbrokers/tracker/BloomShape$IdBits" "blockDraw" "J" (.long (0 : Int64)) := D1 (Or.inl (hw _ (List.mem_of_getElem? (i := 29) rfl))) (ty := .long) (by decide)
  have F_probes_b1 : Fld Z h1 b1 "com/example/bounds_for_brokers/boundsforbrokers/tracker/BloomShape$IdBits" "probes" "I" (.int (0 : Int32)) := D1 (Or.inl (hw _ (List.mem_of_getElem? (i := 31) rfl))) (ty := .int) (by decide)
  refine go _ (T1.setTop (mkF m 16 #[.val (.long q0), .second, .val (.int p2), .val (.int (4194303 : Int32)), .val (.int vb), .unset, .unset, .unset, .unset, .unset, .unset, .unset, .unset, .unset, .unset, .unset] [(.ref b1)])) st1 ?_
  refine go _ (T1.setTop (mkF m 17 #[.val (.long q0), .second, .val (.int p2), .val (.int (4194303 : Int32)), .val (.int vb), .unset, .unset, .unset, .unset, .unset, .unset, .unset, .unset, .unset, .unset, .unset] [(.ref b1), (.ref b1)])) (fun t k => XS.dup X1.here hx rfl (hb hby at_16) rfl rfl k) ?_
  have Z2z : n0 ≤ h1.size := (Nat.le_trans Z0 E1.1)
  obtain ⟨_, _, ⟨T3, L3, k3, n3⟩, -, X3, ⟨Lc3, hQ3, l3, y3, z3⟩, st3⟩ := X1.specialBack hx (y := (⟨"com/example/bounds_for_brokers/boundsforbrokers/tracker/BloomShape$IdBits", "<init>", "()V"⟩ : MethodName)) rfl hown (mvT hZ (hw _ (List.mem_of_getElem? (i := 5) rfl))) (mvT hZ (hw _ (List.mem_of_getElem? (i := 6) rfl))) (mvT hZ (hw _ (List.mem_of_getElem? (i := 7) rfl))) (by decide) (backOf (W := 1) (rm1 l Z a0 hw [] b1 h1 n0 Z2z F_id_b1 F_blockDraw_b1 F_probes_b1 F_masks_b1 Ax1 g_b1) hZ (hw _ (List.mem_of_getElem? (i := 7) rfl)) (hw _ (List.mem_of_getElem? (i := 4) rfl)) (by decide) (by decide)) (g := (mkF m 17 #[.val (.long q0), .second, .val (.int p2), .val (.int (4194303 : Int32)), .val (.int vb), .unset, .unset, .unset, .unset, .unset, .unset, .unset, .unset, .unset, .unset, .unset] [(.ref b1), (.ref b1)])) rfl (by rw [hml]; rfl) (Steps.refl _) (a := b1) (argsL := []) (rest := [(.ref b1)]) (lenOf own_pd_1 rfl) rfl (by show 2 * 0 + _ ≤ _; exact Nat.le_of_eq rfl) (hb hby at_17) (fun _ _ => ⟨rfl, e1, (by decide : 1 + 1 ≤ _), (by decide : 4 + 8 ≤ _)⟩)
  dsimp only [Pt.U, Pt.locs, Pt.cells, Pt.slots] at X3 l3 y3 z3 st3 hQ3
  subst l3 y3 z3
  obtain ⟨rfl, Nq3, K3, Ex3, Fa3_0, Fa3_1, Fa3_2, bb3, sb3, Fm3, Am3⟩ := hQ3
  have N3 := Fr.app N0 Nq3
  have ne4_b1_bb3 : b1 ≠ bb3 := Nat.ne_of_lt (Nat.lt_of_lt_of_le Ax1.lt sb3)
  have S5s : h0.size ≤ h1.size ∧ True := ⟨E1.1, trivial⟩
  have sz_bb3 : h0.size ≤ bb3 := (Nat.le_trans S5s.1 sb3)
  have g_bb3 : n0 ≤ bb3 := Nat.le_trans Z2z sb3
  refine go _ (T3.setTop (mkF m 20 #[.val (.long q0), .second, .val (.int p2), .val (.int (4194303 : Int32)), .val (.int vb), .unset, .unset, .unset, .unset, .unset, .unset, .unset, .unset, .unset, .unset, .unset] [(.ref b1)])) (fun t k => st3.trans k) ?_
  refine go _ (T3.setTop (mkF m 21 #[.val (.long q0), .second, .val (.int p2), .val (.int (4194303 : Int32)), .val (.int vb), .unset, .unset, .unset, .unset, .unset, .unset, .unset, .unset, .unset, .unset, .unset] [(.long q0), (.ref b1)])) (fun t k => XS.lloadN X3.here hx rfl (hb hby at_20) rfl k) ?_
  have Z6z : n0 ≤ T3.heap.size := (Nat.le_trans Z2z K3.1)
  obtain ⟨cq7, kq7, q7a, q7b, q7c⟩ := isOf hZ rfl Ex3
  obtain ⟨_, _, ⟨T7, L7, k7, n7⟩, -, X7, ⟨Lc7, hQ7, l7, y7, z7⟩, st7⟩ := X3.virtualBack hx (y := (⟨"com/example/bounds_for_brokers/boundsforbrokers/tracker/BloomShape$IdBits", "of", "(J)Lcom/example/bounds_for_brokers/boundsforbrokers/tracker/BloomShape$IdBits;"⟩ : MethodName)) (z := (⟨"com/example/bounds_for_brokers/boundsforbrokers/tracker/BloomShape$IdBits", "of", "(J)Lcom/example/bounds_for_brokers/boundsforbrokers/tracker/BloomShape$IdBits;"⟩ : MethodName)) hown (mvT hZ (hw _ (List.mem_of_getElem? (i := 14) rfl))) (mvT hZ (hw _ (List.mem_of_getElem? (i := 15) rfl))) (notFace_of_selects (args := #[]) (mvT hZ (hw _ (List.mem_of_getElem? (i := 17) rfl)))) (mvT hZ (hw _ (List.mem_of_getElem? (i := 17) rfl))) (mvT hZ (hw _ (List.mem_of_getElem? (i := 16) rfl))) (by decide) (backOf (W := 0) (rm3 l Z a0 hw [] b1 q0 (0 : Int64) (0 : Int64) (0 : Int32) bb3 T3.heap n0 Z6z Fa3_0 Fa3_1 Fa3_2 Ex3 g_b1 Fm3) hZ (hw _ (List.mem_of_getElem? (i := 18) rfl)) (hw _ (List.mem_of_getElem? (i := 4) rfl)) (by decide) (by decide)) q7a q7c (g := (mkF m 21 #[.val (.long q0), .second, .val (.int p2), .val (.int (4194303 : Int32)), .val (.int vb), .unset, .unset, .unset, .unset, .unset, .unset, .unset, .unset, .unset, .unset, .unset] [(.long q0), (.ref b1)])) rfl (by rw [hml]; rfl) (Steps.refl _) (argsL := [(.long q0)]) (rest := []) (lenOf own_pd_2 rfl) rfl (by show 2 * 0 + _ ≤ _; exact Nat.le_of_eq rfl) (hb hby at_21) (fun _ _ => ⟨rfl, rfl, (by decide : 2 + 0 ≤ _), (by decide : 12 + 0 ≤ _)⟩)
  dsimp only [Pt.U, Pt.locs, Pt.cells, Pt.slots] at X7 l7 y7 z7 st7 hQ7
  subst l7 y7 z7
  obtain ⟨rfl, Nq7, K7, Ex7, Fi7, Fd7, Fp7, Fm7⟩ := hQ7
  have N7 := Fr.app N3 Nq7
  refine go _ (T7.setTop (mkF m 24 #[.val (.long q0), .second, .val (.int p2), .val (.int (4194303 : Int32)), .val (.int vb), .unset, .unset, .unset, .unset, .unset, .unset, .unset, .unset, .unset, .unset, .unset] [(.ref b1)])) (fun t k => st7.trans k) ?_
  refine go _ (T7.setTop (mkF m 26 #[.val (.long q0), .second, .val (.int p2), .val (.int (4194303 : Int32)), .val (.int vb), .val (.ref b1), .unset, .unset, .unset, .unset, .unset, .unset, .unset, .unset, .unset, .unset] [])) (fun t k => XS.astore X7.here hx rfl (hb hby at_24) rfl rfl (l' := #[.val (.long q0), .second, .val (.int p2), .val (.int (4194303 : Int32)), .val (.int vb), .val (.ref b1), .unset, .unset, .unset, .unset, .unset, .unset, .unset, .unset, .unset, .unset]) rfl k) ?_
  have Z9z : n0 ≤ T7.heap.size := (Nat.le_trans Z6z K7.1)
  obtain ⟨T8, h8, X8, e8, E8, Ax8, D8, -, st8⟩ := newO X7 hx hZ hown (hw _ (List.mem_of_getElem? (i := 32) rfl)) (hw _ (List.mem_of_getElem? (i := 33) rfl)) (hw _ (List.mem_of_getElem? (i := 24) rfl)) rfl (g := (mkF m 26 #[.val (.long q0), .second, .val (.int p2), .val (.int (4194303 : Int32)), .val (.int vb), .val (.ref b1), .unset, .unset, .unset, .unset, .unset, .unset, .unset, .unset, .unset, .unset] [])) rfl (hb hby at_26) (by decide) (by decide)
  obtain ⟨b8, gb8⟩ : ∃ z, z = T7.heap.size := ⟨_, rfl⟩
  rw [← gb8] at Ax8 D8 st8
  have ne10_b1_b8 : b1 ≠ b8 := Nat.ne_of_lt (Nat.lt_of_lt_of_le Ex7.lt (Nat.le_of_eq gb8.symm))
  have A11_bb3 : own_Av Z T7.heap bb3 .long 8 (fun _ => .long 0) := (Am3.keep K7 (ninS (Ne.symm ne4_b1_bb3) nin0))
  have ne12_bb3_b8 : bb3 ≠ b8 := Nat.ne_of_lt (Nat.lt_of_lt_of_le A11_bb3.lt (Nat.le_of_eq gb8.symm))
  have g_b8 : n0 ≤ b8 := Nat.le_trans Z9z (Nat.le_of_eq gb8.symm)
  have S13s : h0.size ≤ T7.heap.size ∧ True := ⟨(Nat.le_trans (Nat.le_trans S5s.1 K3.1) K7.1), trivial⟩
  have sz_b8 : h0.size ≤ b8 := (Nat.le_trans S13s.1 (Nat.le_of_eq gb8.symm))
  have F_ids_b8 : Fld Z h8 b8 "com/example/bounds_for_brokers/boundsforbrokers/tracker/BloomShape" "ids" "I" (.int (0 : Int32)) := D8 (Or.inr (hw _ (List.mem_of_getElem? (i := 44) rfl))) (ty := .int) (by decide)
  have F_blocks_b8 : Fld Z h8 b8 "com/example/bounds_for_brokers/boundsforbrokers/tracker/BloomShape" "blocks" "I" (.int (0 : Int32)) := D8 (Or.inr (hw _ (List.mem_of_getElem? (i := 46) rfl))) (ty := .int) (by decide)
  have F_probes_b8 : Fld Z h8 b8 "com/example/bounds_for_brokers/boundsforbrokers/tracker/BloomShape" "probes" "I" (.int (0 : Int32)) := D8 (Or.inr (hw _ (List.mem_of_getElem? (i := 48) rfl))) (ty := .int) (by decide)
  refine go _ (T8.setTop (mkF m 29 #[.val (.long q0), .second, .val (.int p2), .val (.int (4194303 : Int32)), .val (.int vb), .val (.ref b1), .unset, .unset, .unset, .unset, .unset, .unset, .unset, .unset, .unset, .unset] [(.ref b8)])) st8 ?_
  refine go _ (T8.setTop (mkF m 30 #[.val (.long q0), .second, .val (.int p2), .val (.int (4194303 : Int32)), .val (.int vb), .val (.ref b1), .unset, .unset, .unset, .unset, .unset, .unset, .unset, .unset, .unset, .unset] [(.ref b8), (.ref b8)])) (fun t k => XS.dup X8.here hx rfl (hb hby at_29) rfl rfl k) ?_
  refine go _ (T8.setTop (mkF m 31 #[.val (.long q0), .second, .val (.int p2), .val (.int (4194303 : Int32)), .val (.int vb), .val (.ref b1), .unset, .unset, .unset, .unset, .unset, .unset, .unset, .unset, .unset, .unset] [(.int (1 : Int32)), (.ref b8), (.ref b8)])) (fun t k => XS.iconst X8.here hx rfl (hb hby at_30) k) ?_
  refine go _ (T8.setTop (mkF m 33 #[.val (.long q0), .second, .val (.int p2), .val (.int (4194303 : Int32)), .val (.int vb), .val (.ref b1), .unset, .unset, .unset, .unset, .unset, .unset, .unset, .unset, .unset, .unset] [(.int vb), (.int (1 : Int32)), (.ref b8), (.ref b8)])) (fun t k => XS.iload X8.here hx rfl (hb hby at_31) rfl k) ?_
  refine go _ (T8.setTop (mkF m 34 #[.val (.long q0), .second, .val (.int p2), .val (.int (4194303 : Int32)), .val (.int vb), .val (.ref b1), .unset, .unset, .unset, .unset, .unset, .unset, .unset, .unset, .unset, .unset] [(.int (1 : Int32)), (.int vb), (.int (1 : Int32)), (.ref b8), (.ref b8)])) (fun t k => XS.iconst X8.here hx rfl (hb hby at_33) k) ?_
  have Z14z : n0 ≤ h8.size := (Nat.le_trans Z9z E8.1)
  obtain ⟨_, _, ⟨T15, L15, k15, n15⟩, -, X15, ⟨Lc15, hQ15, l15, y15, z15⟩, st15⟩ := X8.specialBack hx (y := (⟨"com/example/bounds_for_brokers/boundsforbrokers/tracker/BloomShape", "<init>", "(III)V"⟩ : MethodName)) rfl hown (mvT hZ (hw _ (List.mem_of_getElem? (i := 34) rfl))) (mvT hZ (hw _ (List.mem_of_getElem? (i := 35) rfl))) (mvT hZ (hw _ (List.mem_of_getElem? (i := 36) rfl))) (by decide) (backOf (W := 1) (rm5 l Z a0 hw [] b8 (1 : Int32) vb (1 : Int32) h8 n0 Z14z F_ids_b8 F_blocks_b8 F_probes_b8 Ax8 g_b8) hZ (hw _ (List.mem_of_getElem? (i := 36) rfl)) (hw _ (List.mem_of_getElem? (i := 24) rfl)) (by decide) (by decide)) (g := (mkF m 34 #[.val (.long q0), .second, .val (.int p2), .val (.int (4194303 : Int32)), .val (.int vb), .val (.ref b1), .unset, .unset, .unset, .unset, .unset, .unset, .unset, .unset, .unset, .unset] [(.int (1 : Int32)), (.int vb), (.int (1 : Int32)), (.ref b8), (.ref b8)])) rfl (by rw [hml]; rfl) (Steps.refl _) (a := b8) (argsL := [(.int (1 : Int32)), (.int vb), (.int (1 : Int32))]) (rest := [(.ref b8)]) (lenOf own_pd_3 rfl) rfl (by show 2 * 0 + _ ≤ _; exact Nat.le_of_eq rfl) (hb hby at_34) (fun _ _ => ⟨rfl, e8, (by decide : 3 + 0 ≤ _), (by decide : 15 + 0 ≤ _)⟩)
  dsimp only [Pt.U, Pt.locs, Pt.cells, Pt.slots] at X15 l15 y15 z15 st15 hQ15
  subst l15 y15 z15
  obtain ⟨rfl, Nq15, K15, Ex15, Fa15_0, Fa15_1, Fa15_2⟩ := hQ15
  have N15 := Fr.app N7 Nq15
  refine go _ (T15.setTop (mkF m 37 #[.val (.long q0), .second, .val (.int p2), .val (.int (4194303 : Int32)), .val (.int vb), .val (.ref b1), .unset, .unset, .unset, .unset, .unset, .unset, .unset, .unset, .unset, .unset] [(.ref b8)])) (fun t k => st15.trans k) ?_
  refine go _ (T15.setTop (mkF m 39 #[.val (.long q0), .second, .val (.int p2), .val (.int (4194303 : Int32)), .val (.int vb), .val (.ref b1), .val (.ref b8), .unset, .unset, .unset, .unset, .unset, .unset, .unset, .unset, .unset] [])) (fun t k => XS.astore X15.here hx rfl (hb hby at_37) rfl rfl (l' := #[.val (.long q0), .second, .val (.int p2), .val (.int (4194303 : Int32)), .val (.int vb), .val (.ref b1), .val (.ref b8), .unset, .unset, .unset, .unset, .unset, .unset, .unset, .unset, .unset]) rfl k) ?_
  refine go _ (T15.setTop (mkF m 41 #[.val (.long q0), .second, .val (.int p2), .val (.int (4194303 : Int32)), .val (.int vb), .val (.ref b1), .val (.ref b8), .unset, .unset, .unset, .unset, .unset, .unset, .unset, .unset, .unset] [(.ref b8)])) (fun t k => XS.aload X15.here hx rfl (hb hby at_39) rfl rfl k) ?_
  refine go _ (T15.setTop (mkF m 43 #[.val (.long q0), .second, .val (.int p2), .val (.int (4194303 : Int32)), .val (.int vb), .val (.ref b1), .val (.ref b8), .unset, .unset, .unset, .unset, .unset, .unset, .unset, .unset, .unset] [(.ref b1), (.ref b8)])) (fun t k => XS.aload X15.here hx rfl (hb hby at_41) rfl rfl k) ?_
  have Z16z : n0 ≤ T15.heap.size := (Nat.le_trans Z14z K15.1)
  have F17_blockDraw_b1 : Fld Z T15.heap b1 "com/example/bounds_for_brokers/boundsforbrokers/tracker/BloomShape$IdBits" "blockDraw" "J" (.long (own_mix (q0 + (-7046029254386353131 : Int64)))) := ((Fd7.ext E8).keep K15 (ninS ne10_b1_b8 nin0))
  obtain ⟨cq18, kq18, q18a, q18b, q18c⟩ := isOf hZ rfl Ex15
  obtain ⟨_, _, ⟨T18, L18, k18, n18⟩, -, X18, ⟨Lc18, hQ18, l18, y18, z18⟩, st18⟩ := X15.virtualBack hx (y := (⟨"com/example/bounds_for_brokers/boundsforbrokers/tracker/BloomShape", "firstWord", "(Lcom/example/bounds_for_brokers/boundsforbrokers/tracker/BloomShape$IdBits;)I"⟩ : MethodName)) (z := (⟨"com/example/bounds_for_brokers/boundsforbrokers/tracker/BloomShape", "firstWord", "(Lcom/example/bounds_for_brokers/boundsforbrokers/tracker/BloomShape$IdBits;)I"⟩ : MethodName)) hown (mvT hZ (hw _ (List.mem_of_getElem? (i := 49) rfl))) (mvT hZ (hw _ (List.mem_of_getElem? (i := 50) rfl))) (notFace_of_selects (args := #[]) (mvT hZ (hw _ (List.mem_of_getElem? (i := 52) rfl)))) (mvT hZ (hw _ (List.mem_of_getElem? (i := 52) rfl))) (mvT hZ (hw _ (List.mem_of_getElem? (i := 51) rfl))) (by decide) (backOf (W := 0) (rm7 l Z a0 hw [] b8 b1 (own_mix (q0 + (-7046029254386353131 : Int64))) vb T15.heap n0 Z16z F17_blockDraw_b1 Fa15_1) hZ (hw _ (List.mem_of_getElem? (i := 53) rfl)) (hw _ (List.mem_of_getElem? (i := 24) rfl)) (by decide) (by decide)) q18a q18c (g := (mkF m 43 #[.val (.long q0), .second, .val (.int p2), .val (.int (4194303 : Int32)), .val (.int vb), .val (.ref b1), .val (.ref b8), .unset, .unset, .unset, .unset, .unset, .unset, .unset, .unset, .unset] [(.ref b1), (.ref b8)])) rfl (by rw [hml]; rfl) (Steps.refl _) (argsL := [(.ref b1)]) (rest := []) (lenOf own_pd_4 rfl) rfl (by show 2 * 0 + _ ≤ _; exact Nat.le_of_eq rfl) (hb hby at_43) (fun _ _ => ⟨rfl, rfl, (by decide : 3 + 0 ≤ _), (by decide : 15 + 0 ≤ _)⟩)
  dsimp only [Pt.U, Pt.locs, Pt.cells, Pt.slots] at X18 l18 y18 z18 st18 hQ18
  subst l18 y18 z18
  obtain ⟨rfl, Nq18, eq18⟩ := hQ18
  have N18 := Fr.app N15 Nq18
  refine go _ (T18.setTop (mkF m 46 #[.val (.long q0), .second, .val (.int p2), .val (.int (4194303 : Int32)), .val (.int vb), .val (.ref b1), .val (.ref b8), .unset, .unset, .unset, .unset, .unset, .unset, .unset, .unset, .unset] [(.int (own_fw (own_mix (q0 + (-7046029254386353131 : Int64))) vb))])) (fun t k => st18.trans k) ?_
  refine go _ (T18.setTop (mkF m 48 #[.val (.long q0), .second, .val (.int p2), .val (.int (4194303 : Int32)), .val (.int vb), .val (.ref b1), .val (.ref b8), .val (.int (own_fw (own_mix (q0 + (-7046029254386353131 : Int64))) vb)), .unset, .unset, .unset, .unset, .unset, .unset, .unset, .unset] [])) (fun t k => XS.istore X18.here hx rfl (hb hby at_46) rfl (l' := #[.val (.long q0), .second, .val (.int p2), .val (.int (4194303 : Int32)), .val (.int vb), .val (.ref b1), .val (.ref b8), .val (.int (own_fw (own_mix (q0 + (-7046029254386353131 : Int64))) vb)), .unset, .unset, .unset, .unset, .unset, .unset, .unset, .unset]) rfl k) ?_
  refine go _ (T18.setTop (mkF m 50 #[.val (.long q0), .second, .val (.int p2), .val (.int (4194303 : Int32)), .val (.int vb), .val (.ref b1), .val (.ref b8), .val (.int (own_fw (own_mix (q0 + (-7046029254386353131 : Int64))) vb)), .unset, .unset, .unset, .unset, .unset, .unset, .unset, .unset] [(.int (own_fw (own_mix (q0 + (-7046029254386353131 : Int64))) vb))])) (fun t k => XS.iload X18.here hx rfl (hb hby at_48) rfl k) ?_
  have hc50 : ¬ ((own_fw (own_mix (q0 + (-7046029254386353131 : Int64))) vb) < (0 : Int32)) := by exact own_t1 hvb
  refine go _ (T18.setTop (mkF m 55 #[.val (.long q0), .second, .val (.int p2), .val (.int (4194303 : Int32)), .val (.int vb), .val (.ref b1), .val (.ref b8), .val (.int (own_fw (own_mix (q0 + (-7046029254386353131 : Int64))) vb)), .unset, .unset, .unset, .unset, .unset, .unset, .unset, .unset] [])) (fun t k => XS.ifYes X18.here hx rfl (pc0 := 50) (pc' := 55) rfl (hb hby at_50) rfl ((if0 _ _).trans (flt hc50).2.1) (by decide) (by decide) k) ?_
  refine go _ (T18.setTop (mkF m 57 #[.val (.long q0), .second, .val (.int p2), .val (.int (4194303 : Int32)), .val (.int vb), .val (.ref b1), .val (.ref b8), .val (.int (own_fw (own_mix (q0 + (-7046029254386353131 : Int64))) vb)), .unset, .unset, .unset, .unset, .unset, .unset, .unset, .unset] [(.int (own_fw (own_mix (q0 + (-7046029254386353131 : Int64))) vb))])) (fun t k => XS.iload X18.here hx rfl (hb hby at_55) rfl k) ?_
  refine go _ (T18.setTop (mkF m 59 #[.val (.long q0), .second, .val (.int p2), .val (.int (4194303 : Int32)), .val (.int vb), .val (.ref b1), .val (.ref b8), .val (.int (own_fw (own_mix (q0 + (-7046029254386353131 : Int64))) vb)), .unset, .unset, .unset, .unset, .unset, .unset, .unset, .unset] [(.int (7 : Int32)), (.int (own_fw (own_mix (q0 + (-7046029254386353131 : Int64))) vb))])) (fun t k => XS.bipush X18.here hx rfl (hb hby at_57) k) ?_
  refine go _ (T18.setTop (mkF m 60 #[.val (.long q0), .second, .val (.int p2), .val (.int (4194303 : Int32)), .val (.int vb), .val (.ref b1), .val (.ref b8), .val (.int (own_fw (own_mix (q0 + (-7046029254386353131 : Int64))) vb)), .unset, .unset, .unset, .unset, .unset, .unset, .unset, .unset] [(.int ((own_fw (own_mix (q0 + (-7046029254386353131 : Int64))) vb) &&& (7 : Int32)))])) (fun t k => XS.iand X18.here hx rfl (hb hby at_59) rfl k) ?_
  have hc60 : ((own_fw (own_mix (q0 + (-7046029254386353131 : Int64))) vb) &&& (7 : Int32)) = (0 : Int32) := by exact own_t2 hvb
  refine go _ (T18.setTop (mkF m 65 #[.val (.long q0), .second, .val (.int p2), .val (.int (4194303 : Int32)), .val (.int vb), .val (.ref b1), .val (.ref b8), .val (.int (own_fw (own_mix (q0 + (-7046029254386353131 : Int64))) vb)), .unset, .unset, .unset, .unset, .unset, .unset, .unset, .unset] [])) (fun t k => XS.ifYes X18.here hx rfl (pc0 := 60) (pc' := 65) rfl (hb hby at_60) rfl ((if0 _ _).trans (teq hc60).1) (by decide) (by decide) k) ?_
  refine go _ (T18.setTop (mkF m 67 #[.val (.long q0), .second, .val (.int p2), .val (.int (4194303 : Int32)), .val (.int vb), .val (.ref b1), .val (.ref b8), .val (.int (own_fw (own_mix (q0 + (-7046029254386353131 : Int64))) vb)), .unset, .unset, .unset, .unset, .unset, .unset, .unset, .unset] [(.int (own_fw (own_mix (q0 + (-7046029254386353131 : Int64))) vb))])) (fun t k => XS.iload X18.here hx rfl (hb hby at_65) rfl k) ?_
  refine go _ (T18.setTop (mkF m 69 #[.val (.long q0), .second, .val (.int p2), .val (.int (4194303 : Int32)), .val (.int vb), .val (.ref b1), .val (.ref b8), .val (.int (own_fw (own_mix (q0 + (-7046029254386353131 : Int64))) vb)), .unset, .unset, .unset, .unset, .unset, .unset, .unset, .unset] [(.int (8 : Int32)), (.int (own_fw (own_mix (q0 + (-7046029254386353131 : Int64))) vb))])) (fun t k => XS.bipush X18.here hx rfl (hb hby at_67) k) ?_
  refine go _ (T18.setTop (mkF m 70 #[.val (.long q0), .second, .val (.int p2), .val (.int (4194303 : Int32)), .val (.int vb), .val (.ref b1), .val (.ref b8), .val (.int (own_fw (own_mix (q0 + (-7046029254386353131 : Int64))) vb)), .unset, .unset, .unset, .unset, .unset, .unset, .unset, .unset] [(.int ((own_fw (own_mix (q0 + (-7046029254386353131 : Int64))) vb) / (8 : Int32)))])) (fun t k => XS.idiv X18.here hx rfl (hb hby at_69) rfl (show (8 : Int32) ≠ 0 from by decide) k) ?_
  refine go _ (T18.setTop (mkF m 71 #[.val (.long q0), .second, .val (.int p2), .val (.int (4194303 : Int32)), .val (.int vb), .val (.ref b1), .val (.ref b8), .val (.int (own_fw (own_mix (q0 + (-7046029254386353131 : Int64))) vb)), .unset, .unset, .unset, .unset, .unset, .unset, .unset, .unset] [(.long (((own_fw (own_mix (q0 + (-7046029254386353131 : Int64))) vb) / (8 : Int32)).toInt64))])) (fun t k => XS.i2l X18.here hx rfl (hb hby at_70) rfl k) ?_
  refine go _ (T18.setTop (mkF m 73 #[.val (.long q0), .second, .val (.int p2), .val (.int (4194303 : Int32)), .val (.int vb), .val (.ref b1), .val (.ref b8), .val (.int (own_fw (own_mix (q0 + (-7046029254386353131 : Int64))) vb)), .val (.long (((own_fw (own_mix (q0 + (-7046029254386353131 : Int64))) vb) / (8 : Int32)).toInt64)), .second, .unset, .unset, .unset, .unset, .unset, .unset] [])) (fun t k => XS.lstore X18.here hx rfl (hb hby at_71) rfl (l' := #[.val (.long q0), .second, .val (.int p2), .val (.int (4194303 : Int32)), .val (.int vb), .val (.ref b1), .val (.ref b8), .val (.int (own_fw (own_mix (q0 + (-7046029254386353131 : Int64))) vb)), .val (.long (((own_fw (own_mix (q0 + (-7046029254386353131 : Int64))) vb) / (8 : Int32)).toInt64)), .second, .unset, .unset, .unset, .unset, .unset, .unset]) rfl k) ?_
  refine go _ (T18.setTop (mkF m 75 #[.val (.long q0), .second, .val (.int p2), .val (.int (4194303 : Int32)), .val (.int vb), .val (.ref b1), .val (.ref b8), .val (.int (own_fw (own_mix (q0 + (-7046029254386353131 : Int64))) vb)), .val (.long (((own_fw (own_mix (q0 + (-7046029254386353131 : Int64))) vb) / (8 : Int32)).toInt64)), .second, .unset, .unset, .unset, .unset, .unset, .unset] [(.long (((own_fw (own_mix (q0 + (-7046029254386353131 : Int64))) vb) / (8 : Int32)).toInt64))])) (fun t k => XS.lload X18.here hx rfl (hb hby at_73) rfl k) ?_
  refine go _ (T18.setTop (mkF m 77 #[.val (.long q0), .second, .val (.int p2), .val (.int (4194303 : Int32)), .val (.int vb), .val (.ref b1), .val (.ref b8), .val (.int (own_fw (own_mix (q0 + (-7046029254386353131 : Int64))) vb)), .val (.long (((own_fw (own_mix (q0 + (-7046029254386353131 : Int64))) vb) / (8 : Int32)).toInt64)), .second, .unset, .unset, .unset, .unset, .unset, .unset] [(.int vb), (.long (((own_fw (own_mix (q0 + (-7046029254386353131 : Int64))) vb) / (8 : Int32)).toInt64))])) (fun t k => XS.iload X18.here hx rfl (hb hby at_75) rfl k) ?_
  refine go _ (T18.setTop (mkF m 78 #[.val (.long q0), .second, .val (.int p2), .val (.int (4194303 : Int32)), .val (.int vb), .val (.ref b1), .val (.ref b8), .val (.int (own_fw (own_mix (q0 + (-7046029254386353131 : Int64))) vb)), .val (.long (((own_fw (own_mix (q0 + (-7046029254386353131 : Int64))) vb) / (8 : Int32)).toInt64)), .second, .unset, .unset, .unset, .unset, .unset, .unset] [(.long (vb.toInt64)), (.long (((own_fw (own_mix (q0 + (-7046029254386353131 : Int64))) vb) / (8 : Int32)).toInt64))])) (fun t k => XS.i2l X18.here hx rfl (hb hby at_77) rfl k) ?_
  refine go _ (T18.setTop (mkF m 79 #[.val (.long q0), .second, .val (.int p2), .val (.int (4194303 : Int32)), .val (.int vb), .val (.ref b1), .val (.ref b8), .val (.int (own_fw (own_mix (q0 + (-7046029254386353131 : Int64))) vb)), .val (.long (((own_fw (own_mix (q0 + (-7046029254386353131 : Int64))) vb) / (8 : Int32)).toInt64)), .second, .unset, .unset, .unset, .unset, .unset, .unset] [(.int (lcmpW (((own_fw (own_mix (q0 + (-7046029254386353131 : Int64))) vb) / (8 : Int32)).toInt64) (vb.toInt64)))])) (fun t k => XS.lcmp X18.here hx rfl (hb hby at_78) rfl k) ?_
  have hc79 : (((own_fw (own_mix (q0 + (-7046029254386353131 : Int64))) vb) / (8 : Int32)).toInt64) < (vb.toInt64) := by exact own_t3 hvb
  refine go _ (T18.setTop (mkF m 84 #[.val (.long q0), .second, .val (.int p2), .val (.int (4194303 : Int32)), .val (.int vb), .val (.ref b1), .val (.ref b8), .val (.int (own_fw (own_mix (q0 + (-7046029254386353131 : Int64))) vb)), .val (.long (((own_fw (own_mix (q0 + (-7046029254386353131 : Int64))) vb) / (8 : Int32)).toInt64)), .second, .unset, .unset, .unset, .unset, .unset, .unset] [])) (fun t k => XS.ifYes X18.here hx rfl (pc0 := 79) (pc' := 84) rfl (hb hby at_79) rfl ((if0 _ _).trans (tlt ((lw_lt _ _).mpr hc79)).1) (by decide) (by decide) k) ?_
  refine go _ (T18.setTop (mkF m 85 #[.val (.long q0), .second, .val (.int p2), .val (.int (4194303 : Int32)), .val (.int vb), .val (.ref b1), .val (.ref b8), .val (.int (own_fw (own_mix (q0 + (-7046029254386353131 : Int64))) vb)), .val (.long (((own_fw (own_mix (q0 + (-7046029254386353131 : Int64))) vb) / (8 : Int32)).toInt64)), .second, .unset, .unset, .unset, .unset, .unset, .unset] [(.long q0)])) (fun t k => XS.lloadN X18.here hx rfl (hb hby at_84) rfl k) ?_
  refine go _ (T18.setTop (mkF m 88 #[.val (.long q0), .second, .val (.int p2), .val (.int (4194303 : Int32)), .val (.int vb), .val (.ref b1), .val (.ref b8), .val (.int (own_fw (own_mix (q0 + (-7046029254386353131 : Int64))) vb)), .val (.long (((own_fw (own_mix (q0 + (-7046029254386353131 : Int64))) vb) / (8 : Int32)).toInt64)), .second, .unset, .unset, .unset, .unset, .unset, .unset] [(.long (-7046029254386353131 : Int64)), (.long q0)])) (fun t k => X18.ldc2Long hx hown (mvT hZ (hw _ (List.mem_of_getElem? (i := 55) rfl))) (g := (mkF m 85 #[.val (.long q0), .second, .val (.int p2), .val (.int (4194303 : Int32)), .val (.int vb), .val (.ref b1), .val (.ref b8), .val (.int (own_fw (own_mix (q0 + (-7046029254386353131 : Int64))) vb)), .val (.long (((own_fw (own_mix (q0 + (-7046029254386353131 : Int64))) vb) / (8 : Int32)).toInt64)), .second, .unset, .unset, .unset, .unset, .unset, .unset] [(.long q0)])) rfl (hb hby at_85) _ k) ?_
  refine go _ (T18.setTop (mkF m 89 #[.val (.long q0), .second, .val (.int p2), .val (.int (4194303 : Int32)), .val (.int vb), .val (.ref b1), .val (.ref b8), .val (.int (own_fw (own_mix (q0 + (-7046029254386353131 : Int64))) vb)), .val (.long (((own_fw (own_mix (q0 + (-7046029254386353131 : Int64))) vb) / (8 : Int32)).toInt64)), .second, .unset, .unset, .unset, .unset, .unset, .unset] [(.long (q0 + (-7046029254386353131 : Int64)))])) (fun t k => XS.ladd X18.here hx rfl (hb hby at_88) rfl k) ?_
  obtain ⟨_, _, ⟨T19, L19, k19, n19⟩, -, X19, ⟨Lc19, hQ19, l19, y19, z19⟩, st19⟩ := Jvm.LawKit.callS X18 hx (y := (⟨"com/example/bounds_for_brokers/boundsforbrokers/tracker/BloomShapeFirstWordPinLaw", "mixRef", "(J)J"⟩ : MethodName)) hown (mvT hZ (hw _ (List.mem_of_getElem? (i := 56) rfl))) (mvT hZ (hw _ (List.mem_of_getElem? (i := 57) rfl))) (mvT hZ (hw _ (List.mem_of_getElem? (i := 58) rfl))) (mvT hZ (hw _ (List.mem_of_getElem? (i := 59) rfl))) (by decide) (backOf (W := 0) (rm8 l Z a0 hw [] (q0 + (-7046029254386353131 : Int64)) T15.heap n0 Z16z) hZ (hw _ (List.mem_of_getElem? (i := 59) rfl)) (hw _ (List.mem_of_getElem? (i := 58) rfl)) (by decide) (by decide)) (g := (mkF m 89 #[.val (.long q0), .second, .val (.int p2), .val (.int (4194303 : Int32)), .val (.int vb), .val (.ref b1), .val (.ref b8), .val (.int (own_fw (own_mix (q0 + (-7046029254386353131 : Int64))) vb)), .val (.long (((own_fw (own_mix (q0 + (-7046029254386353131 : Int64))) vb) / (8 : Int32)).toInt64)), .second, .unset, .unset, .unset, .unset, .unset, .unset] [(.long (q0 + (-7046029254386353131 : Int64)))])) rfl (by rw [hml]; rfl) (argsL := [(.long (q0 + (-7046029254386353131 : Int64)))]) (rest := []) (lenOf own_pd_0 rfl) rfl (by show 2 * 0 + _ ≤ _; exact Nat.le_of_eq rfl) (hb hby at_89) (fun _ _ => ⟨rfl, eq18, (by decide : 3 + 0 ≤ _), (by decide : 15 + 0 ≤ _)⟩)
  dsimp only [Pt.U, Pt.locs, Pt.cells, Pt.slots] at X19 l19 y19 z19 st19 hQ19
  subst l19 y19 z19
  obtain ⟨rfl, Nq19, eq19⟩ := hQ19
  have N19 := Fr.app N18 Nq19
  refine go _ (T19.setTop (mkF m 92 #[.val (.long q0), .second, .val (.int p2), .val (.int (4194303 : Int32)), .val (.int vb), .val (.ref b1), .val (.ref b8), .val (.int (own_fw (own_mix (q0 + (-7046029254386353131 : Int64))) vb)), .val (.long (((own_fw (own_mix (q0 + (-7046029254386353131 : Int64))) vb) / (8 : Int32)).toInt64)), .second, .unset, .unset, .unset, .unset, .unset, .unset] [(.long (own_mix (q0 + (-7046029254386353131 : Int64))))])) st19 ?_
  refine go _ (T19.setTop (mkF m 94 #[.val (.long q0), .second, .val (.int p2), .val (.int (4194303 : Int32)), .val (.int vb), .val (.ref b1), .val (.ref b8), .val (.int (own_fw (own_mix (q0 + (-7046029254386353131 : Int64))) vb)), .val (.long (((own_fw (own_mix (q0 + (-7046029254386353131 : Int64))) vb) / (8 : Int32)).toInt64)), .second, .unset, .unset, .unset, .unset, .unset, .unset] [(.int (32 : Int32)), (.long (own_mix (q0 + (-7046029254386353131 : Int64))))])) (fun t k => XS.bipush X19.here hx rfl (hb hby at_92) k) ?_
  refine go _ (T19.setTop (mkF m 95 #[.val (.long q0), .second, .val (.int p2), .val (.int (4194303 : Int32)), .val (.int vb), .val (.ref b1), .val (.ref b8), .val (.int (own_fw (own_mix (q0 + (-7046029254386353131 : Int64))) vb)), .val (.long (((own_fw (own_mix (q0 + (-7046029254386353131 : Int64))) vb) / (8 : Int32)).toInt64)), .second, .unset, .unset, .unset, .unset, .unset, .unset] [(.long (((own_mix (q0 + (-7046029254386353131 : Int64))).toUInt64 >>> ((32 : Int32) &&& 0x3f).toInt64.toUInt64).toInt64))])) (fun t k => XS.lushr X19.here hx rfl (hb hby at_94) rfl k) ?_
  refine go _ (T19.setTop (mkF m 97 #[.val (.long q0), .second, .val (.int p2), .val (.int (4194303 : Int32)), .val (.int vb), .val (.ref b1), .val (.ref b8), .val (.int (own_fw (own_mix (q0 + (-7046029254386353131 : Int64))) vb)), .val (.long (((own_fw (own_mix (q0 + (-7046029254386353131 : Int64))) vb) / (8 : Int32)).toInt64)), .second, .val (.long (((own_mix (q0 + (-7046029254386353131 : Int64))).toUInt64 >>> ((32 : Int32) &&& 0x3f).toInt64.toUInt64).toInt64)), .second, .unset, .unset, .unset, .unset] [])) (fun t k => XS.lstore X19.here hx rfl (hb hby at_95) rfl (l' := #[.val (.long q0), .second, .val (.int p2), .val (.int (4194303 : Int32)), .val (.int vb), .val (.ref b1), .val (.ref b8), .val (.int (own_fw (own_mix (q0 + (-7046029254386353131 : Int64))) vb)), .val (.long (((own_fw (own_mix (q0 + (-7046029254386353131 : Int64))) vb) / (8 : Int32)).toInt64)), .second, .val (.long (((own_mix (q0 + (-7046029254386353131 : Int64))).toUInt64 >>> ((32 : Int32) &&& 0x3f).toInt64.toUInt64).toInt64)), .second, .unset, .unset, .unset, .unset]) rfl k) ?_
  refine go _ (T19.setTop (mkF m 99 #[.val (.long q0), .second, .val (.int p2), .val (.int (4194303 : Int32)), .val (.int vb), .val (.ref b1), .val (.ref b8), .val (.int (own_fw (own_mix (q0 + (-7046029254386353131 : Int64))) vb)), .val (.long (((own_fw (own_mix (q0 + (-7046029254386353131 : Int64))) vb) / (8 : Int32)).toInt64)), .second, .val (.long (((own_mix (q0 + (-7046029254386353131 : Int64))).toUInt64 >>> ((32 : Int32) &&& 0x3f).toInt64.toUInt64).toInt64)), .second, .unset, .unset, .unset, .unset] [(.long (((own_mix (q0 + (-7046029254386353131 : Int64))).toUInt64 >>> ((32 : Int32) &&& 0x3f).toInt64.toUInt64).toInt64))])) (fun t k => XS.lload X19.here hx rfl (hb hby at_97) rfl k) ?_
  refine go _ (T19.setTop (mkF m 101 #[.val (.long q0), .second, .val (.int p2), .val (.int (4194303 : Int32)), .val (.int vb), .val (.ref b1), .val (.ref b8), .val (.int (own_fw (own_mix (q0 + (-7046029254386353131 : Int64))) vb)), .val (.long (((own_fw (own_mix (q0 + (-7046029254386353131 : Int64))) vb) / (8 : Int32)).toInt64)), .second, .val (.long (((own_mix (q0 + (-7046029254386353131 : Int64))).toUInt64 >>> ((32 : Int32) &&& 0x3f).toInt64.toUInt64).toInt64)), .second, .unset, .unset, .unset, .unset] [(.int vb), (.long (((own_mix (q0 + (-7046029254386353131 : Int64))).toUInt64 >>> ((32 : Int32) &&& 0x3f).toInt64.toUInt64).toInt64))])) (fun t k => XS.iload X19.here hx rfl (hb hby at_99) rfl k) ?_
  refine go _ (T19.setTop (mkF m 102 #[.val (.long q0), .second, .val (.int p2), .val (.int (4194303 : Int32)), .val (.int vb), .val (.ref b1), .val (.ref b8), .val (.int (own_fw (own_mix (q0 + (-7046029254386353131 : Int64))) vb)), .val (.long (((own_fw (own_mix (q0 + (-7046029254386353131 : Int64))) vb) / (8 : Int32)).toInt64)), .second, .val (.long (((own_mix (q0 + (-7046029254386353131 : Int64))).toUInt64 >>> ((32 : Int32) &&& 0x3f).toInt64.toUInt64).toInt64)), .second, .unset, .unset, .unset, .unset] [(.long (vb.toInt64)), (.long (((own_mix (q0 + (-7046029254386353131 : Int64))).toUInt64 >>> ((32 : Int32) &&& 0x3f).toInt64.toUInt64).toInt64))])) (fun t k => XS.i2l X19.here hx rfl (hb hby at_101) rfl k) ?_
  refine go _ (T19.setTop (mkF m 103 #[.val (.long q0), .second, .val (.int p2), .val (.int (4194303 : Int32)), .val (.int vb), .val (.ref b1), .val (.ref b8), .val (.int (own_fw (own_mix (q0 + (-7046029254386353131 : Int64))) vb)), .val (.long (((own_fw (own_mix (q0 + (-7046029254386353131 : Int64))) vb) / (8 : Int32)).toInt64)), .second, .val (.long (((own_mix (q0 + (-7046029254386353131 : Int64))).toUInt64 >>> ((32 : Int32) &&& 0x3f).toInt64.toUInt64).toInt64)), .second, .unset, .unset, .unset, .unset] [(.long ((((own_mix (q0 + (-7046029254386353131 : Int64))).toUInt64 >>> ((32 : Int32) &&& 0x3f).toInt64.toUInt64).toInt64) * (vb.toInt64)))])) (fun t k => XS.lmul X19.here hx rfl (hb hby at_102) rfl k) ?_
  refine go _ (T19.setTop (mkF m 105 #[.val (.long q0), .second, .val (.int p2), .val (.int (4194303 : Int32)), .val (.int vb), .val (.ref b1), .val (.ref b8), .val (.int (own_fw (own_mix (q0 + (-7046029254386353131 : Int64))) vb)), .val (.long (((own_fw (own_mix (q0 + (-7046029254386353131 : Int64))) vb) / (8 : Int32)).toInt64)), .second, .val (.long (((own_mix (q0 + (-7046029254386353131 : Int64))).toUInt64 >>> ((32 : Int32) &&& 0x3f).toInt64.toUInt64).toInt64)), .second, .val (.long ((((own_mix (q0 + (-7046029254386353131 : Int64))).toUInt64 >>> ((32 : Int32) &&& 0x3f).toInt64.toUInt64).toInt64) * (vb.toInt64))), .second, .unset, .unset] [])) (fun t k => XS.lstore X19.here hx rfl (hb hby at_103) rfl (l' := #[.val (.long q0), .second, .val (.int p2), .val (.int (4194303 : Int32)), .val (.int vb), .val (.ref b1), .val (.ref b8), .val (.int (own_fw (own_mix (q0 + (-7046029254386353131 : Int64))) vb)), .val (.long (((own_fw (own_mix (q0 + (-7046029254386353131 : Int64))) vb) / (8 : Int32)).toInt64)), .second, .val (.long (((own_mix (q0 + (-7046029254386353131 : Int64))).toUInt64 >>> ((32 : Int32) &&& 0x3f).toInt64.toUInt64).toInt64)), .second, .val (.long ((((own_mix (q0 + (-7046029254386353131 : Int64))).toUInt64 >>> ((32 : Int32) &&& 0x3f).toInt64.toUInt64).toInt64) * (vb.toInt64))), .second, .unset, .unset]) rfl k) ?_
  refine go _ (T19.setTop (mkF m 108 #[.val (.long q0), .second, .val (.int p2), .val (.int (4194303 : Int32)), .val (.int vb), .val (.ref b1), .val (.ref b8), .val (.int (own_fw (own_mix (q0 + (-7046029254386353131 : Int64))) vb)), .val (.long (((own_fw (own_mix (q0 + (-7046029254386353131 : Int64))) vb) / (8 : Int32)).toInt64)), .second, .val (.long (((own_mix (q0 + (-7046029254386353131 : Int64))).toUInt64 >>> ((32 : Int32) &&& 0x3f).toInt64.toUInt64).toInt64)), .second, .val (.long ((((own_mix (q0 + (-7046029254386353131 : Int64))).toUInt64 >>> ((32 : Int32) &&& 0x3f).toInt64.toUInt64).toInt64) * (vb.toInt64))), .second, .unset, .unset] [(.long (4294967296 : Int64))])) (fun t k => X19.ldc2Long hx hown (mvT hZ (hw _ (List.mem_of_getElem? (i := 62) rfl))) (g := (mkF m 105 #[.val (.long q0), .second, .val (.int p2), .val (.int (4194303 : Int32)), .val (.int vb), .val (.ref b1), .val (.ref b8), .val (.int (own_fw (own_mix (q0 + (-7046029254386353131 : Int64))) vb)), .val (.long (((own_fw (own_mix (q0 + (-7046029254386353131 : Int64))) vb) / (8 : Int32)).toInt64)), .second, .val (.long (((own_mix (q0 + (-7046029254386353131 : Int64))).toUInt64 >>> ((32 : Int32) &&& 0x3f).toInt64.toUInt64).toInt64)), .second, .val (.long ((((own_mix (q0 + (-7046029254386353131 : Int64))).toUInt64 >>> ((32 : Int32) &&& 0x3f).toInt64.toUInt64).toInt64) * (vb.toInt64))), .second, .unset, .unset] [])) rfl (hb hby at_105) _ k) ?_
  refine go _ (T19.setTop (mkF m 110 #[.val (.long q0), .second, .val (.int p2), .val (.int (4194303 : Int32)), .val (.int vb), .val (.ref b1), .val (.ref b8), .val (.int (own_fw (own_mix (q0 + (-7046029254386353131 : Int64))) vb)), .val (.long (((own_fw (own_mix (q0 + (-7046029254386353131 : Int64))) vb) / (8 : Int32)).toInt64)), .second, .val (.long (((own_mix (q0 + (-7046029254386353131 : Int64))).toUInt64 >>> ((32 : Int32) &&& 0x3f).toInt64.toUInt64).toInt64)), .second, .val (.long ((((own_mix (q0 + (-7046029254386353131 : Int64))).toUInt64 >>> ((32 : Int32) &&& 0x3f).toInt64.toUInt64).toInt64) * (vb.toInt64))), .second, .val (.long (4294967296 : Int64)), .second] [])) (fun t k => XS.lstore X19.here hx rfl (hb hby at_108) rfl (l' := #[.val (.long q0), .second, .val (.int p2), .val (.int (4194303 : Int32)), .val (.int vb), .val (.ref b1), .val (.ref b8), .val (.int (own_fw (own_mix (q0 + (-7046029254386353131 : Int64))) vb)), .val (.long (((own_fw (own_mix (q0 + (-7046029254386353131 : Int64))) vb) / (8 : Int32)).toInt64)), .second, .val (.long (((own_mix (q0 + (-7046029254386353131 : Int64))).toUInt64 >>> ((32 : Int32) &&& 0x3f).toInt64.toUInt64).toInt64)), .second, .val (.long ((((own_mix (q0 + (-7046029254386353131 : Int64))).toUInt64 >>> ((32 : Int32) &&& 0x3f).toInt64.toUInt64).toInt64) * (vb.toInt64))), .second, .val (.long (4294967296 : Int64)), .second]) rfl k) ?_
  refine go _ (T19.setTop (mkF m 112 #[.val (.long q0), .second, .val (.int p2), .val (.int (4194303 : Int32)), .val (.int vb), .val (.ref b1), .val (.ref b8), .val (.int (own_fw (own_mix (q0 + (-7046029254386353131 : Int64))) vb)), .val (.long (((own_fw (own_mix (q0 + (-7046029254386353131 : Int64))) vb) / (8 : Int32)).toInt64)), .second, .val (.long (((own_mix (q0 + (-7046029254386353131 : Int64))).toUInt64 >>> ((32 : Int32) &&& 0x3f).toInt64.toUInt64).toInt64)), .second, .val (.long ((((own_mix (q0 + (-7046029254386353131 : Int64))).toUInt64 >>> ((32 : Int32) &&& 0x3f).toInt64.toUInt64).toInt64) * (vb.toInt64))), .second, .val (.long (4294967296 : Int64)), .second] [(.long (((own_fw (own_mix (q0 + (-7046029254386353131 : Int64))) vb) / (8 : Int32)).toInt64))])) (fun t k => XS.lload X19.here hx rfl (hb hby at_110) rfl k) ?_
  refine go _ (T19.setTop (mkF m 114 #[.val (.long q0), .second, .val (.int p2), .val (.int (4194303 : Int32)), .val (.int vb), .val (.ref b1), .val (.ref b8), .val (.int (own_fw (own_mix (q0 + (-7046029254386353131 : Int64))) vb)), .val (.long (((own_fw (own_mix (q0 + (-7046029254386353131 : Int64))) vb) / (8 : Int32)).toInt64)), .second, .val (.long (((own_mix (q0 + (-7046029254386353131 : Int64))).toUInt64 >>> ((32 : Int32) &&& 0x3f).toInt64.toUInt64).toInt64)), .second, .val (.long ((((own_mix (q0 + (-7046029254386353131 : Int64))).toUInt64 >>> ((32 : Int32) &&& 0x3f).toInt64.toUInt64).toInt64) * (vb.toInt64))), .second, .val (.long (4294967296 : Int64)), .second] [(.long (4294967296 : Int64)), (.long (((own_fw (own_mix (q0 + (-7046029254386353131 : Int64))) vb) / (8 : Int32)).toInt64))])) (fun t k => XS.lload X19.here hx rfl (hb hby at_112) rfl k) ?_
  refine go _ (T19.setTop (mkF m 115 #[.val (.long q0), .second, .val (.int p2), .val (.int (4194303 : Int32)), .val (.int vb), .val (.ref b1), .val (.ref b8), .val (.int (own_fw (own_mix (q0 + (-7046029254386353131 : Int64))) vb)), .val (.long (((own_fw (own_mix (q0 + (-7046029254386353131 : Int64))) vb) / (8 : Int32)).toInt64)), .second, .val (.long (((own_mix (q0 + (-7046029254386353131 : Int64))).toUInt64 >>> ((32 : Int32) &&& 0x3f).toInt64.toUInt64).toInt64)), .second, .val (.long ((((own_mix (q0 + (-7046029254386353131 : Int64))).toUInt64 >>> ((32 : Int32) &&& 0x3f).toInt64.toUInt64).toInt64) * (vb.toInt64))), .second, .val (.long (4294967296 : Int64)), .second] [(.long ((((own_fw (own_mix (q0 + (-7046029254386353131 : Int64))) vb) / (8 : Int32)).toInt64) * (4294967296 : Int64)))])) (fun t k => XS.lmul X19.here hx rfl (hb hby at_114) rfl k) ?_
  refine go _ (T19.setTop (mkF m 117 #[.val (.long q0), .second, .val (.int p2), .val (.int (4194303 : Int32)), .val (.int vb), .val (.ref b1), .val (.ref b8), .val (.int (own_fw (own_mix (q0 + (-7046029254386353131 : Int64))) vb)), .val (.long (((own_fw (own_mix (q0 + (-7046029254386353131 : Int64))) vb) / (8 : Int32)).toInt64)), .second, .val (.long (((own_mix (q0 + (-7046029254386353131 : Int64))).toUInt64 >>> ((32 : Int32) &&& 0x3f).toInt64.toUInt64).toInt64)), .second, .val (.long ((((own_mix (q0 + (-7046029254386353131 : Int64))).toUInt64 >>> ((32 : Int32) &&& 0x3f).toInt64.toUInt64).toInt64) * (vb.toInt64))), .second, .val (.long (4294967296 : Int64)), .second] [(.long ((((own_mix (q0 + (-7046029254386353131 : Int64))).toUInt64 >>> ((32 : Int32) &&& 0x3f).toInt64.toUInt64).toInt64) * (vb.toInt64))), (.long ((((own_fw (own_mix (q0 + (-7046029254386353131 : Int64))) vb) / (8 : Int32)).toInt64) * (4294967296 : Int64)))])) (fun t k => XS.lload X19.here hx rfl (hb hby at_115) rfl k) ?_
  refine go _ (T19.setTop (mkF m 118 #[.val (.long q0), .second, .val (.int p2), .val (.int (4194303 : Int32)), .val (.int vb), .val (.ref b1), .val (.ref b8), .val (.int (own_fw (own_mix (q0 + (-7046029254386353131 : Int64))) vb)), .val (.long (((own_fw (own_mix (q0 + (-7046029254386353131 : Int64))) vb) / (8 : Int32)).toInt64)), .second, .val (.long (((own_mix (q0 + (-7046029254386353131 : Int64))).toUInt64 >>> ((32 : Int32) &&& 0x3f).toInt64.toUInt64).toInt64)), .second, .val (.long ((((own_mix (q0 + (-7046029254386353131 : Int64))).toUInt64 >>> ((32 : Int32) &&& 0x3f).toInt64.toUInt64).toInt64) * (vb.toInt64))), .second, .val (.long (4294967296 : Int64)), .second] [(.int (lcmpW ((((own_fw (own_mix (q0 + (-7046029254386353131 : Int64))) vb) / (8 : Int32)).toInt64) * (4294967296 : Int64)) ((((own_mix (q0 + (-7046029254386353131 : Int64))).toUInt64 >>> ((32 : Int32) &&& 0x3f).toInt64.toUInt64).toInt64) * (vb.toInt64))))])) (fun t k => XS.lcmp X19.here hx rfl (hb hby at_117) rfl k) ?_
  have hc118 : ¬ (((((own_mix (q0 + (-7046029254386353131 : Int64))).toUInt64 >>> ((32 : Int32) &&& 0x3f).toInt64.toUInt64).toInt64) * (vb.toInt64)) < ((((own_fw (own_mix (q0 + (-7046029254386353131 : Int64))) vb) / (8 : Int32)).toInt64) * (4294967296 : Int64))) := by exact own_t4 hvb
  refine go _ (T19.setTop (mkF m 121 #[.val (.long q0), .second, .val (.int p2), .val (.int (4194303 : Int32)), .val (.int vb), .val (.ref b1), .val (.ref b8), .val (.int (own_fw (own_mix (q0 + (-7046029254386353131 : Int64))) vb)), .val (.long (((own_fw (own_mix (q0 + (-7046029254386353131 : Int64))) vb) / (8 : Int32)).toInt64)), .second, .val (.long (((own_mix (q0 + (-7046029254386353131 : Int64))).toUInt64 >>> ((32 : Int32) &&& 0x3f).toInt64.toUInt64).toInt64)), .second, .val (.long ((((own_mix (q0 + (-7046029254386353131 : Int64))).toUInt64 >>> ((32 : Int32) &&& 0x3f).toInt64.toUInt64).toInt64) * (vb.toInt64))), .second, .val (.long (4294967296 : Int64)), .second] [])) (fun t k => XS.ifNo X19.here hx rfl (hb hby at_118) rfl ((if0 _ _).trans (flt (fun q => hc118 ((lw_gt _ _).mp q))).2.2.1) k) ?_
  refine go _ (T19.setTop (mkF m 123 #[.val (.long q0), .second, .val (.int p2), .val (.int (4194303 : Int32)), .val (.int vb), .val (.ref b1), .val (.ref b8), .val (.int (own_fw (own_mix (q0 + (-7046029254386353131 : Int64))) vb)), .val (.long (((own_fw (own_mix (q0 + (-7046029254386353131 : Int64))) vb) / (8 : Int32)).toInt64)), .second, .val (.long (((own_mix (q0 + (-7046029254386353131 : Int64))).toUInt64 >>> ((32 : Int32) &&& 0x3f).toInt64.toUInt64).toInt64)), .second, .val (.long ((((own_mix (q0 + (-7046029254386353131 : Int64))).toUInt64 >>> ((32 : Int32) &&& 0x3f).toInt64.toUInt64).toInt64) * (vb.toInt64))), .second, .val (.long (4294967296 : Int64)), .second] [(.long ((((own_mix (q0 + (-7046029254386353131 : Int64))).toUInt64 >>> ((32 : Int32) &&& 0x3f).toInt64.toUInt64).toInt64) * (vb.toInt64)))])) (fun t k => XS.lload X19.here hx rfl (hb hby at_121) rfl k) ?_
  refine go _ (T19.setTop (mkF m 125 #[.val (.long q0), .second, .val (.int p2), .val (.int (4194303 : Int32)), .val (.int vb), .val (.ref b1), .val (.ref b8), .val (.int (own_fw (own_mix (q0 + (-7046029254386353131 : Int64))) vb)), .val (.long (((own_fw (own_mix (q0 + (-7046029254386353131 : Int64))) vb) / (8 : Int32)).toInt64)), .second, .val (.long (((own_mix (q0 + (-7046029254386353131 : Int64))).toUInt64 >>> ((32 : Int32) &&& 0x3f).toInt64.toUInt64).toInt64)), .second, .val (.long ((((own_mix (q0 + (-7046029254386353131 : Int64))).toUInt64 >>> ((32 : Int32) &&& 0x3f).toInt64.toUInt64).toInt64) * (vb.toInt64))), .second, .val (.long (4294967296 : Int64)), .second] [(.long (((own_fw (own_mix (q0 + (-7046029254386353131 : Int64))) vb) / (8 : Int32)).toInt64)), (.long ((((own_mix (q0 + (-7046029254386353131 : Int64))).toUInt64 >>> ((32 : Int32) &&& 0x3f).toInt64.toUInt64).toInt64) * (vb.toInt64)))])) (fun t k => XS.lload X19.here hx rfl (hb hby at_123) rfl k) ?_
  refine go _ (T19.setTop (mkF m 126 #[.val (.long q0), .second, .val (.int p2), .val (.int (4194303 : Int32)), .val (.int vb), .val (.ref b1), .val (.ref b8), .val (.int (own_fw (own_mix (q0 + (-7046029254386353131 : Int64))) vb)), .val (.long (((own_fw (own_mix (q0 + (-7046029254386353131 : Int64))) vb) / (8 : Int32)).toInt64)), .second, .val (.long (((own_mix (q0 + (-7046029254386353131 : Int64))).toUInt64 >>> ((32 : Int32) &&& 0x3f).toInt64.toUInt64).toInt64)), .second, .val (.long ((((own_mix (q0 + (-7046029254386353131 : Int64))).toUInt64 >>> ((32 : Int32) &&& 0x3f).toInt64.toUInt64).toInt64) * (vb.toInt64))), .second, .val (.long (4294967296 : Int64)), .second] [(.long (1 : Int64)), (.long (((own_fw (own_mix (q0 + (-7046029254386353131 : Int64))) vb) / (8 : Int32)).toInt64)), (.long ((((own_mix (q0 + (-7046029254386353131 : Int64))).toUInt64 >>> ((32 : Int32) &&& 0x3f).toInt64.toUInt64).toInt64) * (vb.toInt64)))])) (fun t k => XS.lconst X19.here hx rfl (hb hby at_125) k) ?_
  refine go _ (T19.setTop (mkF m 127 #[.val (.long q0), .second, .val (.int p2), .val (.int (4194303 : Int32)), .val (.int vb), .val (.ref b1), .val (.ref b8), .val (.int (own_fw (own_mix (q0 + (-7046029254386353131 : Int64))) vb)), .val (.long (((own_fw (own_mix (q0 + (-7046029254386353131 : Int64))) vb) / (8 : Int32)).toInt64)), .second, .val (.long (((own_mix (q0 + (-7046029254386353131 : Int64))).toUInt64 >>> ((32 : Int32) &&& 0x3f).toInt64.toUInt64).toInt64)), .second, .val (.long ((((own_mix (q0 + (-7046029254386353131 : Int64))).toUInt64 >>> ((32 : Int32) &&& 0x3f).toInt64.toUInt64).toInt64) * (vb.toInt64))), .second, .val (.long (4294967296 : Int64)), .second] [(.long ((((own_fw (own_mix (q0 + (-7046029254386353131 : Int64))) vb) / (8 : Int32)).toInt64) + (1 : Int64))), (.long ((((own_mix (q0 + (-7046029254386353131 : Int64))).toUInt64 >>> ((32 : Int32) &&& 0x3f).toInt64.toUInt64).toInt64) * (vb.toInt64)))])) (fun t k => XS.ladd X19.here hx rfl (hb hby at_126) rfl k) ?_
  refine go _ (T19.setTop (mkF m 129 #[.val (.long q0), .second, .val (.int p2), .val (.int (4194303 : Int32)), .val (.int vb), .val (.ref b1), .val (.ref b8), .val (.int (own_fw (own_mix (q0 + (-7046029254386353131 : Int64))) vb)), .val (.long (((own_fw (own_mix (q0 + (-7046029254386353131 : Int64))) vb) / (8 : Int32)).toInt64)), .second, .val (.long (((own_mix (q0 + (-7046029254386353131 : Int64))).toUInt64 >>> ((32 : Int32) &&& 0x3f).toInt64.toUInt64).toInt64)), .second, .val (.long ((((own_mix (q0 + (-7046029254386353131 : Int64))).toUInt64 >>> ((32 : Int32) &&& 0x3f).toInt64.toUInt64).toInt64) * (vb.toInt64))), .second, .val (.long (4294967296 : Int64)), .second] [(.long (4294967296 : Int64)), (.long ((((own_fw (own_mix (q0 + (-7046029254386353131 : Int64))) vb) / (8 : Int32)).toInt64) + (1 : Int64))), (.long ((((own_mix (q0 + (-7046029254386353131 : Int64))).toUInt64 >>> ((32 : Int32) &&& 0x3f).toInt64.toUInt64).toInt64) * (vb.toInt64)))])) (fun t k => XS.lload X19.here hx rfl (hb hby at_127) rfl k) ?_
  refine go _ (T19.setTop (mkF m 130 #[.val (.long q0), .second, .val (.int p2), .val (.int (4194303 : Int32)), .val (.int vb), .val (.ref b1), .val (.ref b8), .val (.int (own_fw (own_mix (q0 + (-7046029254386353131 : Int64))) vb)), .val (.long (((own_fw (own_mix (q0 + (-7046029254386353131 : Int64))) vb) / (8 : Int32)).toInt64)), .second, .val (.long (((own_mix (q0 + (-7046029254386353131 : Int64))).toUInt64 >>> ((32 : Int32) &&& 0x3f).toInt64.toUInt64).toInt64)), .second, .val (.long ((((own_mix (q0 + (-7046029254386353131 : Int64))).toUInt64 >>> ((32 : Int32) &&& 0x3f).toInt64.toUInt64).toInt64) * (vb.toInt64))), .second, .val (.long (4294967296 : Int64)), .second] [(.long (((((own_fw (own_mix (q0 + (-7046029254386353131 : Int64))) vb) / (8 : Int32)).toInt64) + (1 : Int64)) * (4294967296 : Int64))), (.long ((((own_mix (q0 + (-7046029254386353131 : Int64))).toUInt64 >>> ((32 : Int32) &&& 0x3f).toInt64.toUInt64).toInt64) * (vb.toInt64)))])) (fun t k => XS.lmul X19.here hx rfl (hb hby at_129) rfl k) ?_
  refine go _ (T19.setTop (mkF m 131 #[.val (.long q0), .second, .val (.int p2), .val (.int (4194303 : Int32)), .val (.int vb), .val (.ref b1), .val (.ref b8), .val (.int (own_fw (own_mix (q0 + (-7046029254386353131 : Int64))) vb)), .val (.long (((own_fw (own_mix (q0 + (-7046029254386353131 : Int64))) vb) / (8 : Int32)).toInt64)), .second, .val (.long (((own_mix (q0 + (-7046029254386353131 : Int64))).toUInt64 >>> ((32 : Int32) &&& 0x3f).toInt64.toUInt64).toInt64)), .second, .val (.long ((((own_mix (q0 + (-7046029254386353131 : Int64))).toUInt64 >>> ((32 : Int32) &&& 0x3f).toInt64.toUInt64).toInt64) * (vb.toInt64))), .second, .val (.long (4294967296 : Int64)), .second] [(.int (lcmpW ((((own_mix (q0 + (-7046029254386353131 : Int64))).toUInt64 >>> ((32 : Int32) &&& 0x3f).toInt64.toUInt64).toInt64) * (vb.toInt64)) (((((own_fw (own_mix (q0 + (-7046029254386353131 : Int64))) vb) / (8 : Int32)).toInt64) + (1 : Int64)) * (4294967296 : Int64))))])) (fun t k => XS.lcmp X19.here hx rfl (hb hby at_130) rfl k) ?_
  have hc131 : ((((own_mix (q0 + (-7046029254386353131 : Int64))).toUInt64 >>> ((32 : Int32) &&& 0x3f).toInt64.toUInt64).toInt64) * (vb.toInt64)) < (((((own_fw (own_mix (q0 + (-7046029254386353131 : Int64))) vb) / (8 : Int32)).toInt64) + (1 : Int64)) * (4294967296 : Int64)) := by exact own_t5 hvb
  refine go _ (T19.setTop (mkF m 134 #[.val (.long q0), .second, .val (.int p2), .val (.int (4194303 : Int32)), .val (.int vb), .val (.ref b1), .val (.ref b8), .val (.int (own_fw (own_mix (q0 + (-7046029254386353131 : Int64))) vb)), .val (.long (((own_fw (own_mix (q0 + (-7046029254386353131 : Int64))) vb) / (8 : Int32)).toInt64)), .second, .val (.long (((own_mix (q0 + (-7046029254386353131 : Int64))).toUInt64 >>> ((32 : Int32) &&& 0x3f).toInt64.toUInt64).toInt64)), .second, .val (.long ((((own_mix (q0 + (-7046029254386353131 : Int64))).toUInt64 >>> ((32 : Int32) &&& 0x3f).toInt64.toUInt64).toInt64) * (vb.toInt64))), .second, .val (.long (4294967296 : Int64)), .second] [])) (fun t k => XS.ifNo X19.here hx rfl (hb hby at_131) rfl ((if0 _ _).trans (tlt ((lw_lt _ _).mpr hc131)).2.1) k) ?_
  refine go _ (T19.setTop (mkF m 135 #[.val (.long q0), .second, .val (.int p2), .val (.int (4194303 : Int32)), .val (.int vb), .val (.ref b1), .val (.ref b8), .val (.int (own_fw (own_mix (q0 + (-7046029254386353131 : Int64))) vb)), .val (.long (((own_fw (own_mix (q0 + (-7046029254386353131 : Int64))) vb) / (8 : Int32)).toInt64)), .second, .val (.long (((own_mix (q0 + (-7046029254386353131 : Int64))).toUInt64 >>> ((32 : Int32) &&& 0x3f).toInt64.toUInt64).toInt64)), .second, .val (.long ((((own_mix (q0 + (-7046029254386353131 : Int64))).toUInt64 >>> ((32 : Int32) &&& 0x3f).toInt64.toUInt64).toInt64) * (vb.toInt64))), .second, .val (.long (4294967296 : Int64)), .second] [(.int (1 : Int32))])) (fun t k => XS.iconst X19.here hx rfl (hb hby at_134) k) ?_
  refine go _ (T19.setTop (mkF m 139 #[.val (.long q0), .second, .val (.int p2), .val (.int (4194303 : Int32)), .val (.int vb), .val (.ref b1), .val (.ref b8), .val (.int (own_fw (own_mix (q0 + (-7046029254386353131 : Int64))) vb)), .val (.long (((own_fw (own_mix (q0 + (-7046029254386353131 : Int64))) vb) / (8 : Int32)).toInt64)), .second, .val (.long (((own_mix (q0 + (-7046029254386353131 : Int64))).toUInt64 >>> ((32 : Int32) &&& 0x3f).toInt64.toUInt64).toInt64)), .second, .val (.long ((((own_mix (q0 + (-7046029254386353131 : Int64))).toUInt64 >>> ((32 : Int32) &&& 0x3f).toInt64.toUInt64).toInt64) * (vb.toInt64))), .second, .val (.long (4294967296 : Int64)), .second] [(.int (1 : Int32))])) (fun t k => XS.goto X19.here hx rfl (pc0 := 135) (pc' := 139) rfl (hb hby at_135) (by decide) (by decide) k) ?_
  refine fin (some (.int (1 : Int32))) (mkF m 139 #[.val (.long q0), .second, .val (.int p2), .val (.int (4194303 : Int32)), .val (.int vb), .val (.ref b1), .val (.ref b8), .val (.int (own_fw (own_mix (q0 + (-7046029254386353131 : Int64))) vb)), .val (.long (((own_fw (own_mix (q0 + (-7046029254386353131 : Int64))) vb) / (8 : Int32)).toInt64)), .second, .val (.long (((own_mix (q0 + (-7046029254386353131 : Int64))).toUInt64 >>> ((32 : Int32) &&& 0x3f).toInt64.toUInt64).toInt64)), .second, .val (.long ((((own_mix (q0 + (-7046029254386353131 : Int64))).toUInt64 >>> ((32 : Int32) &&& 0x3f).toInt64.toUInt64).toInt64) * (vb.toInt64))), .second, .val (.long (4294967296 : Int64)), .second] [(.int (1 : Int32))]) X19 (fun h => by cases h) (fun fs hr => retOut X19 hx (t := .boolean) hret rfl (Or.inl ⟨rfl, by simp, _, rfl⟩) (hb hby at_139) hr) ?_ (by decide) (by decide)
  exact ⟨rfl, N19⟩
set_option maxRecDepth 65536 in
set_option maxHeartbeats 40000000 in
theorem comes_1 {Post : Tables → Env → Array Value → State → Outcome → State → Prop} (hpost : ∀ tb e args s v u, (limb_1_1.after args s (.returned v) u = true ∧ limb_1_2.after args s (.returned v) u = true ∧ True) → FrameEnd s (.returned v) u (Jvm.fieldLocs frame_1_writes args s ++ Jvm.arrayLocs frame_1_arrays args s ++ Jvm.staticLocs frame_1_statics s) 16 128 → Post tb e args s (.returned v) u) :
    ArmFor flags0 classFile x code maxLocals ret World_1 tables_1 room_1 Calls_1 rest_1 Pre_1 Post := by
  intro l hfl _ _ p e ha hc hk s m args below hf hA hF happ hP
  obtain ⟨hcalls, hrest, hpre⟩ := hP
  obtain ⟨-, -, -, hnamed, -, -, -, hat⟩ := (Spec.applies_iff hf).mp happ
  obtain ⟨hg, hn⟩ := and_e (Cond.before_iff.mp (show (Jvm.Cond.and given_1 narrow_1).before args s = true from hpre))
  obtain ⟨gg1, gg2⟩ := and_e hg
  obtain ⟨gg3, gg4⟩ := and_e gg2
  obtain ⟨w0, w1, rfl⟩ : ∃ w0 w1 : Value, args = #[w0, w1] := by
    have hs : args.size = 2 := by simpa [Cond.value, given_1] using gg1
    obtain ⟨L⟩ := args
    match L, hs with
    | [w0, w1], _ => exact ⟨w0, w1, rfl⟩
  have hw := fun d (hd : d ∈ tables_1) => atoms_spec (ws := Jvm.Cond.code x code maxLocals ret :: tables_1) hat d (List.mem_cons_of_mem _ hd)
  have hfit : Fit s := fun {y c} hc i hi => by
    obtain ⟨ha, rfl⟩ := Array.getElem?_eq_some_iff.mp hc
    have q := List.all_eq_true.mp ((Array.all_eq_true_iff_forall_mem.mp hF) _ (Array.getElem_mem ha)) i (List.mem_range.mpr hi)
    simpa [Array.getElem?_eq_getElem hi] using q
  obtain ⟨i0, ei0⟩ := isL_v gg3
  obtain rfl : w0 = (.long i0) := Option.some.inj ei0
  obtain ⟨i1, ei1⟩ := is_v gg4
  obtain rfl : w1 = (.int i1) := Option.some.inj ei1
  obtain ⟨n, o, h1, h2, h3, _, L, rfl, ⟨rfl, N⟩, hq⟩ := rm0 l s _ hw tables_1 i0 i1 s.heap s.heap.size (Nat.le_refl _)  p e ha hc hk s m _ below hf ((Spec.applies_iff_loose hf).mp happ).1 ⟨rfl, State.Warmed39.refl s, rfl⟩ trivial
  refine ⟨n, _, h1, h2, h3, hpost _ _ _ _ _ _ ⟨Cond.after_iff.mpr rfl, Cond.after_iff.mpr (eq_i res_at (Term.int_eval (1)) rfl), trivial⟩ ⟨hq.1, hq.2.1, (hq.2.2.sift fun y hy => Or.inr (N y hy)).mono (by decide) (by decide)⟩⟩
theorem main_1_1 : Claimed_1_1 := comes_1 fun _ _ _ _ _ _ h hF => ⟨h.1, hF⟩
theorem main_1_2 : Claimed_1_2 := comes_1 fun _ _ _ _ _ _ h hF => ⟨h.2.1, hF⟩
end Jvm.Pilot.@@N@@
namespace Jvm.Pilot.@@N@@
open Jvm Jvm.ClassFile Sem Op Lib Jvm.Free Jvm.Stand Jvm.Pilot.@@N@@.Jvm.D
/-! MADE BY PROGRAM (witnessworld.py) out of the Statement's table words and the real class files: 13 classes; the members and pool entries that the words name. The judged class is class 1, her method 2. -/
namespace start1
open Jvm.ClassFile
def u (s : String) : CpInfo := .utf8 (stringToUtf16 s)
/-- a pool by its gaps: so many unusable entries, then the entry; so many at the end -/
def gap : Nat → List CpInfo → List CpInfo
  | 0, r => r
  | n + 1, r => .unusable :: gap n r
def poolList (es : List (Nat × CpInfo)) (last : Nat) : List CpInfo := es.foldr (fun e r => gap e.1 (e.2 :: r)) (gap last [])
def pool (es : List (Nat × CpInfo)) (last : Nat) : Array CpInfo := ⟨poolList es last⟩
def fileOf (pool : Array CpInfo) (this : Nat) (attrs : Array Attribute := #[]) (ms : Array MethodInfo := #[]) (fl : Nat := 33) (sup : Nat := 0) (ifs : Array Nat := #[]) (fds : Array FieldInfo := #[]) : ClassFile where
  minorVersion := 0
  majorVersion := 65
  constantPool := pool
  accessFlags := fl
  thisClass := this
  superClass := sup
  interfaces := ifs
  fields := fds
  methods := ms
  attributes := attrs
def plain (name : String) (sup : Option ClassId) : Class where
  name := name
  kind := .ordinary
  loader := none
  accessFlags := 33
  super := sup
  interfaces := #[]
  cf := none
  fields := #[]
  methods := #[]
  instanceTypes := #[]
  staticTypes := #[]
  resolved := #[]
  callSites := []
  init := .initialized
  statics := none
  mirror := none

def pool0 : Array CpInfo := pool [(5, u "<init>"), (0, u "()V"), (1, .class_ 10), (1, u "java/lang/Object")] 113

def k0c0 : Code := { maxStack := 0, maxLocals := 1, code := object_method_1_code, exceptionTable := #[], attributes := #[] }
def k0m0 : Method := { name := "<init>", desc := "()V", sig := { parameters := [], returnType := none }, accessFlags := 1, code := some k0c0 }
/-- java/lang/Object -/
def k0 : Class := { plain "java/lang/Object" none with
  accessFlags := 33
  interfaces := #[]
  cf := some (fileOf pool0 8 #[] #[{ accessFlags := 1, nameIndex := 5, descriptorIndex := 6, attributes := #[] }] 33 0 #[] #[])
  fields := #[]
  methods := #[k0m0]
  instanceTypes := #[]
  staticTypes := #[]
  resolved := Array.replicate 124 none
  statics := none }

def pool1 : Array CpInfo := pool [(2, .class_ 4), (0, .nameAndType 5 6), (0, u "java/lang/Object"), (0, u "<init>"), (0, u "()V"), (0, .long 13787848793156543929), (1, .long 10723151780598845931), (3, .integer 4194303), (0, .integer 2147483647), (0, .class_ 16), (0, u "com/example/bounds_for_brokers/boundsforbrokers/tracker/BloomShape$IdBits"), (0, .methodref 15 3), (0, .methodref 15 19), (0, .nameAndType 20 21), (0, u "of"), (0, u "(J)Lcom/example/bounds_for_brokers/boundsforbrokers/tracker/BloomShape$IdBits;"), (0, .class_ 23), (0, u "com/example/bounds_for_brokers/boundsforbrokers/tracker/BloomShape"), (0, .methodref 22 25), (0, .nameAndType 5 26), (0, u "(III)V"), (0, .methodref 22 28), (0, .nameAndType 29 30), (0, u "firstWord"), (0, u "(Lcom/example/bounds_for_brokers/boundsforbrokers/tracker/BloomShape$IdBits;)I"), (0, .long 11400714819323198485), (1, .methodref 34 35), (0, .class_ 36), (0, .nameAndType 37 38), (0, u "com/example/bounds_for_brokers/boundsforbrokers/tracker/BloomShapeFirstWordPinLaw"), (0, u "mixRef"), (0, u "(J)J"), (0, .long 4294967296), (3, u "law"), (0, u "(JI)Z")] 5

def k1m0 : Method := { name := "<init>", desc := "()V", sig := { parameters := [], returnType := none }, accessFlags := 1, code := none }
def k1c1 : Code := { maxStack := 5, maxLocals := 4, code := method_2_code, exceptionTable := #[], attributes := #[] }
def k1m1 : Method := { name := "mixRef", desc := "(J)J", sig := { parameters := [.long], returnType := some .long }, accessFlags := 10, code := some k1c1 }
def k1c2 : Code := { maxStack := 6, maxLocals := 16, code := code, exceptionTable := #[], attributes := #[] }
def k1m2 : Method := { name := "law", desc := "(JI)Z", sig := { parameters := [.long, .int], returnType := some .boolean }, accessFlags := 9, code := some k1c2 }
/-- com/example/bounds_for_brokers/boundsforbrokers/tracker/BloomShapeFirstWordPinLaw -/
def k1 : Class := { plain "com/example/bounds_for_brokers/boundsforbrokers/tracker/BloomShapeFirstWordPinLaw" (some 0) with
  accessFlags := 49
  interfaces := #[]
  cf := some (fileOf pool1 34 #[] #[{ accessFlags := 1, nameIndex := 5, descriptorIndex := 6, attributes := #[] }, { accessFlags := 10, nameIndex := 37, descriptorIndex := 38, attributes := #[] }, { accessFlags := 9, nameIndex := 43, descriptorIndex := 44, attributes := #[] }] 49 2 #[] #[])
  fields := #[]
  methods := #[k1m0, k1m1, k1m2]
  instanceTypes := #[]
  staticTypes := #[]
  resolved := Array.replicate 50 none
  statics := none }

def pool2 : Array CpInfo := pool [(1, .class_ 2), (0, u "com/example/bounds_for_brokers/boundsforbrokers/tracker/BloomShape"), (0, .methodref 4 5), (0, .class_ 6), (0, .nameAndType 7 8), (0, u "java/lang/Object"), (0, u "<init>"), (0, u "()V"), (0, .fieldref 10 11), (0, .class_ 12), (0, .nameAndType 13 14), (0, u "com/example/bounds_for_brokers/boundsforbrokers/tracker/BloomShape$IdBits"), (0, u "masks"), (0, u "[J"), (0, .fieldref 10 16), (0, .nameAndType 17 18), (0, u "id"), (0, u "J"), (0, .long 11400714819323198485), (1, .methodref 1 22), (0, .nameAndType 23 24), (0, u "mix"), (0, u "(J)J"), (0, .fieldref 10 26), (0, .nameAndType 27 18), (0, u "blockDraw"), (0, .fieldref 10 29), (0, .nameAndType 30 31), (0, u "probes"), (0, u "I"), (10, u "of"), (0, u "(J)Lcom/example/bounds_for_brokers/boundsforbrokers/tracker/BloomShape$IdBits;")] 7

def k2c0 : Code := { maxStack := 2, maxLocals := 1, code := prog_12_method_1_code, exceptionTable := #[], attributes := #[] }
def k2m0 : Method := { name := "<init>", desc := "()V", sig := { parameters := [], returnType := none }, accessFlags := 0, code := some k2c0 }
def k2c1 : Code := { maxStack := 5, maxLocals := 3, code := prog_12_method_2_code, exceptionTable := #[], attributes := #[] }
def k2m1 : Method := { name := "of", desc := "(J)Lcom/example/bounds_for_brokers/boundsforbrokers/tracker/BloomShape$IdBits;", sig := { parameters := [.long], returnType := some (.object "com/example/bounds_for_brokers/boundsforbrokers/tracker/BloomShape$IdBits") }, accessFlags := 0, code := some k2c1 }
/-- com/example/bounds_for_brokers/boundsforbrokers/tracker/BloomShape$IdBits -/
def k2 : Class := { plain "com/example/bounds_for_brokers/boundsforbrokers/tracker/BloomShape$IdBits" (some 0) with
  accessFlags := 48
  interfaces := #[]
  cf := some (fileOf pool2 10 #[.nestHost 1] #[{ accessFlags := 0, nameIndex := 7, descriptorIndex := 8, attributes := #[] }, { accessFlags := 0, nameIndex := 42, descriptorIndex := 43, attributes := #[] }] 48 4 #[] #[{ accessFlags := 18, nameIndex := 13, descriptorIndex := 14, attributes := #[] }, { accessFlags := 2, nameIndex := 17, descriptorIndex := 18, attributes := #[] }, { accessFlags := 2, nameIndex := 27, descriptorIndex := 18, attributes := #[] }, { accessFlags := 2, nameIndex := 30, descriptorIndex := 31, attributes := #[] }])
  fields := #[{ name := "masks", type := (.array .long), accessFlags := 18, slot := 0, constantValue := 0 }, { name := "id", type := .long, accessFlags := 2, slot := 1, constantValue := 0 }, { name := "blockDraw", type := .long, accessFlags := 2, slot := 2, constantValue := 0 }, { name := "probes", type := .int, accessFlags := 2, slot := 3, constantValue := 0 }]
  methods := #[k2m0, k2m1]
  instanceTypes := #[(.array .long), .long, .long, .int]
  staticTypes := #[]
  resolved := Array.replicate 51 none
  statics := none }

def pool3 : Array CpInfo := pool [(1, .methodref 2 3), (0, .class_ 4), (0, .nameAndType 5 6), (0, u "java/lang/Object"), (0, u "<init>"), (0, u "()V"), (0, .class_ 8), (0, u "java/lang/Record")] 13

def k3c0 : Code := { maxStack := 1, maxLocals := 1, code := jdk_30_method_1_code, exceptionTable := #[], attributes := #[] }
def k3m0 : Method := { name := "<init>", desc := "()V", sig := { parameters := [], returnType := none }, accessFlags := 4, code := some k3c0 }
/-- java/lang/Record -/
def k3 : Class := { plain "java/lang/Record" (some 0) with
  accessFlags := 1057
  interfaces := #[]
  cf := some (fileOf pool3 7 #[] #[{ accessFlags := 4, nameIndex := 5, descriptorIndex := 6, attributes := #[] }] 1057 2 #[] #[])
  fields := #[]
  methods := #[k3m0]
  instanceTypes := #[]
  staticTypes := #[]
  resolved := Array.replicate 22 none
  statics := none }

def pool4 : Array CpInfo := pool [(1, .class_ 2), (0, u "com/example/bounds_for_brokers/boundsforbrokers/tracker/BloomShape"), (4, .methodref 8 9), (0, .class_ 10), (0, .nameAndType 11 12), (0, u "java/lang/Record"), (0, u "<init>"), (0, u "()V"), (0, .fieldref 1 14), (0, .nameAndType 15 16), (0, u "ids"), (0, u "I"), (0, .fieldref 1 18), (0, .nameAndType 19 16), (0, u "blocks"), (0, .fieldref 1 21), (0, .nameAndType 22 16), (0, u "probes"), (60, u "(III)V"), (0, .fieldref 85 86), (0, .class_ 87), (0, .nameAndType 88 89), (0, u "com/example/bounds_for_brokers/boundsforbrokers/tracker/BloomShape$IdBits"), (0, u "blockDraw"), (0, u "J"), (11, .long 13787848793156543929), (1, .long 10723151780598845931), (13, u "BLOCK_BITS"), (2, u "WORDS_PER_BLOCK"), (1, u "MAX_BLOCKS"), (0, u "MAX_PROBES"), (1, u "PICK_BITS"), (1, u "PICKS_PER_DRAW"), (1, u "TAIL_SHARE"), (0, u "D"), (0, u "GOLDEN_GAMMA"), (10, u "firstWord"), (0, u "(Lcom/example/bounds_for_brokers/boundsforbrokers/tracker/BloomShape$IdBits;)I"), (0, u "mix"), (0, u "(J)J")] 37

def k4c0 : Code := { maxStack := 2, maxLocals := 4, code := prog_11_method_1_code, exceptionTable := #[], attributes := #[] }
def k4m0 : Method := { name := "<init>", desc := "(III)V", sig := { parameters := [.int, .int, .int], returnType := none }, accessFlags := 0, code := some k4c0 }
def k4c1 : Code := { maxStack := 4, maxLocals := 2, code := prog_11_method_4_code, exceptionTable := #[], attributes := #[] }
def k4m1 : Method := { name := "firstWord", desc := "(Lcom/example/bounds_for_brokers/boundsforbrokers/tracker/BloomShape$IdBits;)I", sig := { parameters := [(.object "com/example/bounds_for_brokers/boundsforbrokers/tracker/BloomShape$IdBits")], returnType := some .int }, accessFlags := 0, code := some k4c1 }
def k4c2 : Code := { maxStack := 5, maxLocals := 4, code := prog_11_method_7_code, exceptionTable := #[], attributes := #[] }
def k4m2 : Method := { name := "mix", desc := "(J)J", sig := { parameters := [.long], returnType := some .long }, accessFlags := 10, code := some k4c2 }
/-- com/example/bounds_for_brokers/boundsforbrokers/tracker/BloomShape -/
def k4 : Class := { plain "com/example/bounds_for_brokers/boundsforbrokers/tracker/BloomShape" (some 3) with
  accessFlags := 48
  interfaces := #[]
  cf := some (fileOf pool4 1 #[.nestMembers #[85]] #[{ accessFlags := 0, nameIndex := 11, descriptorIndex := 83, attributes := #[] }, { accessFlags := 0, nameIndex := 142, descriptorIndex := 143, attributes := #[] }, { accessFlags := 10, nameIndex := 144, descriptorIndex := 145, attributes := #[] }] 48 8 #[] #[{ accessFlags := 18, nameIndex := 15, descriptorIndex := 16, attributes := #[] }, { accessFlags := 18, nameIndex := 19, descriptorIndex := 16, attributes := #[] }, { accessFlags := 18, nameIndex := 22, descriptorIndex := 16, attributes := #[] }, { accessFlags := 24, nameIndex := 117, descriptorIndex := 16, attributes := #[] }, { accessFlags := 24, nameIndex := 120, descriptorIndex := 16, attributes := #[] }, { accessFlags := 26, nameIndex := 122, descriptorIndex := 16, attributes := #[] }, { accessFlags := 26, nameIndex := 123, descriptorIndex := 16, attributes := #[] }, { accessFlags := 26, nameIndex := 125, descriptorIndex := 16, attributes := #[] }, { accessFlags := 26, nameIndex := 127, descriptorIndex := 16, attributes := #[] }, { accessFlags := 26, nameIndex := 129, descriptorIndex := 130, attributes := #[] }, { accessFlags := 26, nameIndex := 131, descriptorIndex := 89, attributes := #[] }])
  fields := #[{ name := "ids", type := .int, accessFlags := 18, slot := 0, constantValue := 0 }, { name := "blocks", type := .int, accessFlags := 18, slot := 1, constantValue := 0 }, { name := "probes", type := .int, accessFlags := 18, slot := 2, constantValue := 0 }, { name := "BLOCK_BITS", type := .int, accessFlags := 24, slot := 0, constantValue := 0 }, { name := "WORDS_PER_BLOCK", type := .int, accessFlags := 24, slot := 1, constantValue := 0 }, { name := "MAX_BLOCKS", type := .int, accessFlags := 26, slot := 2, constantValue := 0 }, { name := "MAX_PROBES", type := .int, accessFlags := 26, slot := 3, constantValue := 0 }, { name := "PICK_BITS", type := .int, accessFlags := 26, slot := 4, constantValue := 0 }, { name := "PICKS_PER_DRAW", type := .int, accessFlags := 26, slot := 5, constantValue := 0 }, { name := "TAIL_SHARE", type := .double, accessFlags := 26, slot := 6, constantValue := 0 }, { name := "GOLDEN_GAMMA", type := .long, accessFlags := 26, slot := 7, constantValue := 0 }]
  methods := #[k4m0, k4m1, k4m2]
  instanceTypes := #[.int, .int, .int]
  staticTypes := #[.int, .int, .int, .int, .int, .int, .double, .long]
  resolved := (Array.replicate 183 none).setIfInBounds 84 (some (.field 2 2))
  statics := none }

def pool5 : Array CpInfo := pool [(1, u "java/lang/Cloneable"), (0, .class_ 1), (0, u "java/lang/Object"), (0, .class_ 3)] 3

/-- java/lang/Cloneable -/
def k5 : Class := { plain "java/lang/Cloneable" (some 0) with
  accessFlags := 1537
  interfaces := #[]
  cf := some (fileOf pool5 2 #[] #[] 1537 4 #[] #[])
  fields := #[]
  methods := #[]
  instanceTypes := #[]
  staticTypes := #[]
  resolved := Array.replicate 8 none
  statics := none }

def pool6 : Array CpInfo := pool [(1, u "java/io/Serializable"), (0, .class_ 1), (0, u "java/lang/Object"), (0, .class_ 3)] 3

/-- java/io/Serializable -/
def k6 : Class := { plain "java/io/Serializable" (some 0) with
  accessFlags := 1537
  interfaces := #[]
  cf := some (fileOf pool6 2 #[] #[] 1537 4 #[] #[])
  fields := #[]
  methods := #[]
  instanceTypes := #[]
  staticTypes := #[]
  resolved := Array.replicate 8 none
  statics := none }

/-- the primitive byte -/
def k7 : Class := { plain "byte" none with kind := .primitive 'B', accessFlags := 0x411 }
/-- [B -/
def k8 : Class := { plain "[B" (some 0) with kind := .array 7 .byte, interfaces := #[5, 6], accessFlags := 1041 }

/-- the primitive int -/
def k9 : Class := { plain "int" none with kind := .primitive 'I', accessFlags := 0x411 }
/-- [I -/
def k10 : Class := { plain "[I" (some 0) with kind := .array 9 .int, interfaces := #[5, 6], accessFlags := 1041 }

/-- the primitive long -/
def k11 : Class := { plain "long" none with kind := .primitive 'J', accessFlags := 0x411 }
/-- [J -/
def k12 : Class := { plain "[J" (some 0) with kind := .array 11 .long, interfaces := #[5, 6], accessFlags := 1041 }

def heap : Heap := #[]
def classes : Array Class := #[k0, k1, k2, k3, k4, k5, k6, k7, k8, k9, k10, k11, k12]
def interned : List (Array UInt16 × Addr) := []
def slotsUsed : Nat := 0
def theMethod : MethodId := ⟨1, 2⟩
def args0 : Array Value := #[.long 5, .int 2]
def aboutOver (below : List Frame) : State where
  vm := { classes := classes, interned := interned.toArray }
  heap := heap
  slotsUsed := slotsUsed
  threads := #[{ frames := .invoking theMethod args0 :: below }]
def below0 : List Frame := [.native { method := ⟨0, 0⟩, args := #[] }]
def about1 : State := aboutOver below0
def p0 : Program := .bare "" "" ""
def e0 : Env := launch0.env 0 0 0
theorem w_frames : about1.frames = Frame.invoking theMethod args0 :: below0 := rfl
set_option maxRecDepth 65536 in
theorem w_args : argsFit about1.vm theMethod args0 = true := by decide +kernel
set_option maxRecDepth 65536 in
theorem w_heap : heapFits about1 = true := by decide +kernel
set_option maxRecDepth 65536 in
theorem w_runnable : about1.curStatus? = some .runnable := by decide +kernel
set_option maxRecDepth 65536 in
theorem w_alone : about1.alone = true := by decide +kernel
set_option maxRecDepth 65536 in
theorem w_named : about1.methodNamed? x = some theMethod := by decide +kernel
set_option maxRecDepth 65536 in
theorem w_hears : about1.hears theMethod below0 = true := by decide +kernel
set_option maxRecDepth 65536 in
theorem w_ripe : about1.ripe theMethod args0 below0 = true := by decide +kernel
theorem w_running : about1.status = .running := rfl
set_option maxRecDepth 65536 in
theorem w_room : about1.hasRoom e0.platform room_1 = true :=
  launch0.hasRoom_least _ room_1 (by decide +kernel) (by decide +kernel) (by decide +kernel) (by decide +kernel) (by decide +kernel) (by decide +kernel)
theorem allAtoms_all (ts : List Jvm.Cond) (a : Array Jvm.Value) (st : Jvm.State) : (allAtoms ts).before a st = ts.all (fun c => c.before a st) := by
  induction ts with
  | nil => rfl
  | cons c t ih =>
    show (Jvm.Cond.and c (allAtoms t)).before a st = _
    rw [Jvm.Cond.before_and, ih, List.all_cons]
def words1 : List Jvm.Cond := Jvm.Cond.code x code maxLocals ret :: tables_1
/-- a 'code' word, met by the world's own term for the bytes: nothing is compared byte by byte -/
theorem code_word {y : MethodName} {bytes : ByteArray} {mx : Nat} {rt : Option FieldType} {a : Array Value} {s : State} {m : MethodId} {meth : Method} {c : Code} (h1 : s.methodNamed? y = some m) (h2 : s.vm.method? m = some meth) (h3 : meth.code = some c) (h4 : c.code = bytes)
    (h5 : (c.maxLocals == mx && c.exceptionTable.isEmpty && decide (c.maxStack ≤ mostOperands) && decide (meth.sig.returnType = rt) && !meth.locks && decide (parseMethodDescriptor y.desc = some meth.sig)) = true) : (Jvm.Cond.code y bytes mx rt).before a s = true := by
  simp only [Bool.and_eq_true, beq_iff_eq, Bool.not_eq_true', decide_eq_true_eq] at h5
  obtain ⟨⟨⟨⟨⟨g1, g2⟩, g3⟩, g4⟩, g5⟩, g6⟩ := h5
  simp [Cond.before, Cond.holds, Cond.value, h1, h2, h3, h4, g1, g2, g3, g4, g5, g6]
def isCode : Jvm.Cond → Bool
  | .code _ _ _ _ => true
  | _ => false
theorem all_split {L : List Jvm.Cond} {P : Jvm.Cond → Bool} (h1 : L.all (fun c => isCode c || P c) = true) (h2 : ∀ c ∈ L.filter isCode, P c = true) : L.all P = true := by
  refine List.all_eq_true.mpr fun c hc => ?_
  have h := List.all_eq_true.mp h1 c hc
  rcases Bool.eq_false_or_eq_true (isCode c) with hi | hi
  · exact h2 c (List.mem_filter.mpr ⟨hc, hi⟩)
  · simpa [hi] using h
set_option maxRecDepth 65536 in
theorem w_c0 : (Jvm.Cond.code x code maxLocals ret).before args0 about1 = true := code_word (m := ⟨1, 2⟩) (meth := k1m2) (c := k1c2) (by decide +kernel) rfl rfl rfl (by decide +kernel)
set_option maxRecDepth 65536 in
theorem w_c1 : (Jvm.Cond.code ({ cls := "com/example/bounds_for_brokers/boundsforbrokers/tracker/BloomShape$IdBits", name := "<init>", desc := "()V" } : Jvm.MethodName) prog_12_method_1_code (1 : Nat) (Option.none : Option Jvm.ClassFile.FieldType)).before args0 about1 = true := code_word (m := ⟨2, 0⟩) (meth := k2m0) (c := k2c0) (by decide +kernel) rfl rfl rfl (by decide +kernel)
set_option maxRecDepth 65536 in
theorem w_c2 : (Jvm.Cond.code ({ cls := "java/lang/Object", name := "<init>", desc := "()V" } : Jvm.MethodName) object_method_1_code (1 : Nat) (Option.none : Option Jvm.ClassFile.FieldType)).before args0 about1 = true := code_word (m := ⟨0, 0⟩) (meth := k0m0) (c := k0c0) (by decide +kernel) rfl rfl rfl (by decide +kernel)
set_option maxRecDepth 65536 in
theorem w_c3 : (Jvm.Cond.code ({ cls := "com/example/bounds_for_brokers/boundsforbrokers/tracker/BloomShape$IdBits", name := "of", desc := "(J)Lcom/example/bounds_for_brokers/boundsforbrokers/tracker/BloomShape$IdBits;" } : Jvm.MethodName) prog_12_method_2_code (3 : Nat) (Option.some (Jvm.ClassFile.FieldType.object "com/example/bounds_for_brokers/boundsforbrokers/tracker/BloomShape$IdBits"))).before args0 about1 = true := code_word (m := ⟨2, 1⟩) (meth := k2m1) (c := k2c1) (by decide +kernel) rfl rfl rfl (by decide +kernel)
set_option maxRecDepth 65536 in
theorem w_c4 : (Jvm.Cond.code ({ cls := "com/example/bounds_for_brokers/boundsforbrokers/tracker/BloomShape", name := "mix", desc := "(J)J" } : Jvm.MethodName) prog_11_method_7_code (4 : Nat) (Option.some Jvm.ClassFile.FieldType.long)).before args0 about1 = true := code_word (m := ⟨4, 2⟩) (meth := k4m2) (c := k4c2) (by decide +kernel) rfl rfl rfl (by decide +kernel)
set_option maxRecDepth 65536 in
theorem w_c5 : (Jvm.Cond.code ({ cls := "com/example/bounds_for_brokers/boundsforbrokers/tracker/BloomShape", name := "<init>", desc := "(III)V" } : Jvm.MethodName) prog_11_method_1_code (4 : Nat) (Option.none : Option Jvm.ClassFile.FieldType)).before args0 about1 = true := code_word (m := ⟨4, 0⟩) (meth := k4m0) (c := k4c0) (by decide +kernel) rfl rfl rfl (by decide +kernel)
set_option maxRecDepth 65536 in
theorem w_c6 : (Jvm.Cond.code ({ cls := "java/lang/Record", name := "<init>", desc := "()V" } : Jvm.MethodName) jdk_30_method_1_code (1 : Nat) (Option.none : Option Jvm.ClassFile.FieldType)).before args0 about1 = true := code_word (m := ⟨3, 0⟩) (meth := k3m0) (c := k3c0) (by decide +kernel) rfl rfl rfl (by decide +kernel)
set_option maxRecDepth 65536 in
theorem w_c7 : (Jvm.Cond.code ({ cls := "com/example/bounds_for_brokers/boundsforbrokers/tracker/BloomShape", name := "firstWord", desc := "(Lcom/example/bounds_for_brokers/boundsforbrokers/tracker/BloomShape$IdBits;)I" } : Jvm.MethodName) prog_11_method_4_code (2 : Nat) (Option.some Jvm.ClassFile.FieldType.int)).before args0 about1 = true := code_word (m := ⟨4, 1⟩) (meth := k4m1) (c := k4c1) (by decide +kernel) rfl rfl rfl (by decide +kernel)
set_option maxRecDepth 65536 in
theorem w_c8 : (Jvm.Cond.code ({ cls := "com/example/bounds_for_brokers/boundsforbrokers/tracker/BloomShapeFirstWordPinLaw", name := "mixRef", desc := "(J)J" } : Jvm.MethodName) method_2_code (4 : Nat) (Option.some Jvm.ClassFile.FieldType.long)).before args0 about1 = true := code_word (m := ⟨1, 1⟩) (meth := k1m1) (c := k1c1) (by decide +kernel) rfl rfl rfl (by decide +kernel)
def codes1 : List Jvm.Cond := [Jvm.Cond.code x code maxLocals ret, Jvm.Cond.code ({ cls := "com/example/bounds_for_brokers/boundsforbrokers/tracker/BloomShape$IdBits", name := "<init>", desc := "()V" } : Jvm.MethodName) prog_12_method_1_code (1 : Nat) (Option.none : Option Jvm.ClassFile.FieldType), Jvm.Cond.code ({ cls := "java/lang/Object", name := "<init>", desc := "()V" } : Jvm.MethodName) object_method_1_code (1 : Nat) (Option.none : Option Jvm.ClassFile.FieldType), Jvm.Cond.code ({ cls := "com/example/bounds_for_brokers/boundsforbrokers/tracker/BloomShape$IdBits", name := "of", desc := "(J)Lcom/example/bounds_for_brokers/boundsforbrokers/tracker/BloomShape$IdBits;" } : Jvm.MethodName) prog_12_method_2_code (3 : Nat) (Option.some (Jvm.ClassFile.FieldType.object "com/example/bounds_for_brokers/boundsforbrokers/tracker/BloomShape$IdBits")), Jvm.Cond.code ({ cls := "com/example/bounds_for_brokers/boundsforbrokers/tracker/BloomShape", name := "mix", desc := "(J)J" } : Jvm.MethodName) prog_11_method_7_code (4 : Nat) (Option.some Jvm.ClassFile.FieldType.long), Jvm.Cond.code ({ cls := "com/example/bounds_for_brokers/boundsforbrokers/tracker/BloomShape", name := "<init>", desc := "(III)V" } : Jvm.MethodName) prog_11_method_1_code (4 : Nat) (Option.none : Option Jvm.ClassFile.FieldType), Jvm.Cond.code ({ cls := "java/lang/Record", name := "<init>", desc := "()V" } : Jvm.MethodName) jdk_30_method_1_code (1 : Nat) (Option.none : Option Jvm.ClassFile.FieldType), Jvm.Cond.code ({ cls := "com/example/bounds_for_brokers/boundsforbrokers/tracker/BloomShape", name := "firstWord", desc := "(Lcom/example/bounds_for_brokers/boundsforbrokers/tracker/BloomShape$IdBits;)I" } : Jvm.MethodName) prog_11_method_4_code (2 : Nat) (Option.some Jvm.ClassFile.FieldType.int), Jvm.Cond.code ({ cls := "com/example/bounds_for_brokers/boundsforbrokers/tracker/BloomShapeFirstWordPinLaw", name := "mixRef", desc := "(J)J" } : Jvm.MethodName) method_2_code (4 : Nat) (Option.some Jvm.ClassFile.FieldType.long)]
set_option maxRecDepth 65536 in
theorem codes_eq : words1.filter isCode = codes1 := rfl
theorem w_codes : ∀ c ∈ words1.filter isCode, c.before args0 about1 = true := by
  rw [codes_eq]
  intro c hc
  simp only [codes1, List.mem_cons, List.not_mem_nil, or_false] at hc
  rcases hc with rfl | rfl | rfl | rfl | rfl | rfl | rfl | rfl | rfl
  · exact w_c0
  · exact w_c1
  · exact w_c2
  · exact w_c3
  · exact w_c4
  · exact w_c5
  · exact w_c6
  · exact w_c7
  · exact w_c8
set_option maxRecDepth 65536 in
theorem w_t1 : (words1.take 24).all (fun c => isCode c || c.before args0 about1) = true := by decide +kernel
set_option maxRecDepth 65536 in
theorem w_t2 : ((words1.drop 24).take 24).all (fun c => isCode c || c.before args0 about1) = true := by decide +kernel
set_option maxRecDepth 65536 in
theorem w_t3 : ((words1.drop 24).drop 24).all (fun c => isCode c || c.before args0 about1) = true := by decide +kernel
theorem w_tables : (allAtoms (Jvm.Cond.code x code maxLocals ret :: tables_1)).before args0 about1 = true := by
  rw [allAtoms_all]
  show words1.all (fun c => c.before args0 about1) = true
  refine all_split ?_ w_codes
  rw [← List.take_append_drop 24 words1, List.all_append, w_t1, ← List.take_append_drop 24 (words1.drop 24), List.all_append, w_t2, w_t3]
  rfl
set_option maxRecDepth 65536 in
theorem w_case : (Jvm.Cond.and given_1 narrow_1).before args0 about1 = true := by decide +kernel
theorem w_applies : (headSpec (Jvm.Cond.code x code maxLocals ret :: tables_1) room_1).applies x e0.platform about1 = true :=
  (Spec.applies_iff w_frames).mpr ⟨w_running, w_runnable, w_alone, w_named, w_hears, w_ripe, w_room, w_tables⟩
theorem atStart : AtStart classFile x code maxLocals ret World_1 tables_1 room_1 Calls_1 rest_1 Pre_1 launch0 p0 e0 about1 theMethod args0 below0 :=
  ⟨lists_1, trivial, launch0.admits_env _ _ _, launch0.least_env, fairChoices_fair.cas, fairChoices_fair.clock, w_frames, w_args, w_heap, w_applies, trivial, trivial, w_case⟩
end start1
theorem witness_1 : WitnessClaimed_1 := ⟨start1.p0, start1.e0, start1.about1, start1.theMethod, start1.args0, start1.below0, start1.atStart⟩
end Jvm.Pilot.@@N@@
