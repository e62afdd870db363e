import JvmDerived
import JvmDerived.Pilot.@@N@@Statement
import JvmDerived.Pilot.@@N@@Code
set_option linter.unusedVariables false
set_option linter.unusedSimpArgs false
namespace Jvm.Pilot.@@N@@
open Jvm Jvm.ClassFile Sem Op Lib Jvm.Free Jvm.Stand Jvm.LawKit Jvm.RoadKit Bundle Jvm.Pilot.@@N@@.Jvm.D
/-! my own layer: a body's walk by a predicate on states (go: one step on, fin: a return), arrays by their elements -/
theorem own_metfree {l : Launch} {x : MethodName} {ws : List Jvm.Cond} {R : Room} {code : ByteArray} {maxL : Nat} {ret : Option FieldType} {as' : Array Value} {Z : State} {h0 : Heap} {Q : Option Value → Heap → List Loc → Prop} (hpl : plainFor x = true)
    (body : ∀ (p : Program) (e : Env) (s : State) (m : MethodId) (below : List Frame) (meth : Method) (c : Code) (s₁ : State),
      Stand p l e R s m as' below meth c s₁ [] 0 0 → p.tables.exec = Jvm.exec → c.code = code → c.maxLocals = maxL → meth.sig.returnType = ret → s.vm.findClass x.cls = some m.cls → meth.name = x.name → Z.Warmed39 s.vm → s₁.heap = h0 →
      ∀ G : State → Prop, (∀ U U', (∀ t, Steps p.tables e below U' t → Steps p.tables e below U t) → G U' → G U) →
        (∀ {T : State} {locs : List Loc} {cells slots : Nat} (v : Option Value) (g : JFrame), Stand p l e R s m as' below meth c T locs cells slots → (ret = none → v = none) →
          (∀ fs, (∀ (f : JFrame) (acts : List Action), f.method = m → f.locked = none → f.entered = [] → (doReturn e (T.setTop f) acts v).1 = T.setFrames fs) → Steps p.tables e below (T.setTop g) (T.setFrames fs)) →
          Q v T.heap locs → cells ≤ R.cells → slots ≤ R.slots → G (T.setTop g)) →
        G (s₁.setTop (entryFrame m as' maxL))) :
    MetFree l x (head1 (Jvm.Cond.code x code maxL ret :: ws) R) (fun a U => a = as' ∧ Z.Warmed39 U.vm ∧ U.heap = h0) (fun _ _ _ _ _ => True) (fun _ U o U' => ∃ v L, o = .returned v ∧ Q v U'.heap L ∧ FrameEnd U o U' L R.cells R.slots) := by
  refine MetFree.of_bodySF hpl hisR ?_
  intro p e s m args below meth c s₁ Bd hml0 hP hK
  obtain ⟨rfl, hZ, hh⟩ := hP
  have X0 : Stand p l e R s m args below meth c s₁ [] 0 0 := Stand.of_body Bd
  refine body p e s m below meth c s₁ X0 Bd.exec Bd.bytes hml0 Bd.returns (findClass_of_methodNamed Bd.named) (name_of_methodNamed Bd.named Bd.method).1 hZ (by rw [← hh, Bd.state]; rfl)
    (fun U => ∃ s₂ o, Steps p.tables e below U s₂ ∧ s₂.status = .running ∧ Ended s₂ below o ∧ ∃ v L, o = .returned v ∧ Q v s₂.heap L ∧ FrameEnd s o s₂ L R.cells R.slots) ?_ ?_
  · rintro U U' h ⟨s₂, o, h1, h2⟩
    exact ⟨s₂, o, h _ h1, h2⟩
  · intro T locs cells slots v g X hv hst hq hc hs
    obtain ⟨fs, hr, hrun, hended, hW, hsame⟩ := X.leave (v := v) (by rw [Bd.returns]; exact hv)
    exact ⟨_, _, hst fs hr, hrun, hended, _, _, rfl, hq, ⟨_, rfl⟩, hW, hsame.mono hc hs⟩
theorem own_lrem {tb : Tables} [Ours tb] {e : Env} {below : List Frame} {T target : State} {m : MethodId} {c : Code} {g : JFrame} (h : At T m c below) (hx : tb.exec = Jvm.exec) (hg : g.method = m) {x y : Int64} {rest : List Value} (hd : decode c.code g.pc = .ok (.lrem, 1)) (hs : g.stack = .long y :: .long x :: rest) (hy : y ≠ 0)
    (hr : Steps tb e below (T.setTop { g with pc := g.pc + 1, stack := .long (x % y) :: rest }) target) : Steps tb e below (T.setTop g) target :=
  XS.lrem h hx hg hd hs hy (by rw [lrem_mod]; exact hr)
def own_iv : Value → Int32
  | .int x => x
  | _ => 0
def own_jv : Value → Int64
  | .long x => x
  | _ => 0
theorem own_iv_int (x : Int32) : own_iv (.int x) = x := rfl
theorem own_jv_long (x : Int64) : own_jv (.long x) = x := rfl
def own_up (f : Nat → Value) (i : Nat) (v : Value) : Nat → Value := fun k => if k = i then v else f k
theorem own_up_at (f : Nat → Value) (i : Nat) (v : Value) (k : Nat) : own_up f i v k = if k = i then v else f k := rfl
def own_Av (Z : State) (h : Heap) (a : Addr) (ty : FieldType) (n : Nat) (f : Nat → Value) : Prop := ∃ c : Cell, Arr Z h a c ty ∧ c.slots.size = n ∧ n < 2 ^ 31 ∧ ∀ i, i < n → c.slots[i]? = some (f i) ∧ fits ty (f i) = true
theorem own_Av.lt {Z : State} {h : Heap} {a : Addr} {ty : FieldType} {n : Nat} {f : Nat → Value} (A : own_Av Z h a ty n f) : a < h.size := by obtain ⟨c, Ar, -⟩ := A; exact Ar.lt
theorem own_Av.ext {Z : State} {h h' : Heap} {a : Addr} {ty : FieldType} {n : Nat} {f : Nat → Value} (A : own_Av Z h a ty n f) (E : Ext h h') : own_Av Z h' a ty n f := by obtain ⟨c, Ar, r⟩ := A; exact ⟨c, Ar.ext E, r⟩
theorem own_Av.other {Z : State} {h h' : Heap} {a b : Addr} {ty : FieldType} {n : Nat} {f : Nat → Value} {sl : Nat} {v : Value} (A : own_Av Z h a ty n f) (W : Wr h h' b sl v) (q : a ≠ b) : own_Av Z h' a ty n f := by obtain ⟨c, Ar, r⟩ := A; exact ⟨c, Ar.other W q, r⟩
theorem own_Av.keep {Z : State} {h h' : Heap} {a : Addr} {ty : FieldType} {n : Nat} {f : Nat → Value} {ws : List Addr} (A : own_Av Z h a ty n f) (K : Keep h h' ws) (q : a ∉ ws) : own_Av Z h' a ty n f := by obtain ⟨c, Ar, r⟩ := A; exact ⟨c, ⟨K.2.1 a c Ar.1 q, Ar.2⟩, r⟩
theorem own_Av.congr {Z : State} {h : Heap} {a : Addr} {ty : FieldType} {n : Nat} {f f' : Nat → Value} (A : own_Av Z h a ty n f) (q : ∀ i, i < n → f i = f' i) : own_Av Z h a ty n f' := by
  obtain ⟨c, Ar, h1, h2, h3⟩ := A
  exact ⟨c, Ar, h1, h2, fun i hi => by rw [← q i hi]; exact h3 i hi⟩
theorem own_Av.new {Z : State} {h : Heap} {a : Addr} {k : ClassId} {ty : FieldType} {z : Int32} {N : Nat} (A : Arr Z h a (newA k ty z) ty) (q : ¬ z < 0) (e : z.toNatClampNeg = N) : own_Av Z h a ty N (fun _ => defaultValue ty) := by
  have hs : (newA k ty z).slots.size = N := by rw [sz_new, e]
  refine ⟨_, A, hs, e ▸ (back32 q).2, fun i hi => ⟨?_, ?_⟩⟩
  · have hi' : i < (newA k ty z).slots.size := by rw [hs]; exact hi
    rw [Array.getElem?_eq_getElem hi']
    simp [newA]
  · cases ty <;> rfl
theorem own_nat {j : Int32} {i : Nat} (h : j.toInt = (i : Int)) : j.toNatClampNeg = i := by show j.toInt.toNat = i; omega
theorem own_nn {j : Int32} {i : Nat} (h : j.toInt = (i : Int)) : ¬ j < 0 := by
  rw [Int32.lt_iff_toInt_lt]
  have : (0 : Int32).toInt = 0 := by decide
  omega
theorem own_in {j : Int32} {i n : Nat} {cl : Cell} (hs : cl.slots.size = n) (h : j.toInt = (i : Int)) (hi : i < n) : ¬ (j < 0 ∨ cl.slots.size ≤ j.toNatClampNeg) := by
  rw [own_nat h, hs]; rintro (q | q)
  · exact own_nn h q
  · omega
theorem own_nar8 (y : Int32) : nar .byte y.toInt8.toInt32 = y.toInt8.toInt32 := by simp [nar]
theorem own_set {Z : State} {h h' : Heap} {a : Addr} {ty : FieldType} {n : Nat} {f : Nat → Value} {c : Cell} {i : Nat} {v : Value} (Ar : Arr Z h a c ty) (hs : c.slots.size = n) (hn : n < 2 ^ 31) (hf : ∀ i, i < n → c.slots[i]? = some (f i) ∧ fits ty (f i) = true) (W : Wr h h' a i v) (hv : fits ty v = true) (hi : i < n) : own_Av Z h' a ty n (own_up f i v) := by
  refine ⟨_, Ar.same W, by rw [sz_set]; exact hs, hn, fun k hk => ?_⟩
  simp only [own_up_at]
  by_cases q : k = i
  · subst q; simp [Cell.setSlot, hs, hi, hv]
  · rw [if_neg q]; refine ⟨?_, (hf k hk).2⟩; rw [← (hf k hk).1]; simp [Cell.setSlot, Array.getElem?_setIfInBounds, Ne.symm q]
section OwnArr
variable {p : Program} {l : Launch} {e : Env} {R : Room} {s : State} {m : MethodId} {args : Array Value} {below : List Frame} {meth : Method} {c : Code} {T : State} {locs : List Loc} {cells slots : Nat} {Z : State} {h : Heap} {a : Addr} {n : Nat} {f : Nat → Value}
theorem own_ldB (X : Stand p l e R s m args below meth c T locs cells slots) (hx : p.tables.exec = Jvm.exec) (hZ : Z.Warmed39 s.vm) (eT : T.heap = h) (A : own_Av Z h a .byte n f) {j : Int32} {i : Nat} (hj : j.toInt = (i : Int)) (hi : i < n) {g : JFrame} (hg : g.method = m) {rest : List Value} (hs : g.stack = .int j :: .ref a :: rest) (hd : decode c.code g.pc = .ok (.baload, 1)) (target : State)
    (k : Steps p.tables e below (T.setTop { g with pc := g.pc + 1, stack := .int (own_iv (f i)) :: rest }) target) : Steps p.tables e below (T.setTop g) target := by
  obtain ⟨cl, Ar, hsz, hn, hf⟩ := A
  have hat : cl.slots[j.toNatClampNeg]? = some (.int (own_iv (f i))) := by
    rw [own_nat hj, (hf i hi).1]; obtain ⟨x, q⟩ := fit_I (hf i hi).2 (by simp); rw [q]; rfl
  exact X.baloadBytes hx (by rw [eT]; exact Ar.1) (State.isArrayOf_alike hZ.alike Ar.2.1) Ar.2.2 (own_in hsz hj hi) hat hg hs hd target k
theorem own_ldI (X : Stand p l e R s m args below meth c T locs cells slots) (hx : p.tables.exec = Jvm.exec) (hZ : Z.Warmed39 s.vm) (eT : T.heap = h) (A : own_Av Z h a .int n f) {j : Int32} {i : Nat} (hj : j.toInt = (i : Int)) (hi : i < n) {g : JFrame} (hg : g.method = m) {rest : List Value} (hs : g.stack = .int j :: .ref a :: rest) (hd : decode c.code g.pc = .ok (.iaload, 1)) (target : State)
    (k : Steps p.tables e below (T.setTop { g with pc := g.pc + 1, stack := .int (own_iv (f i)) :: rest }) target) : Steps p.tables e below (T.setTop g) target := by
  obtain ⟨cl, Ar, hsz, hn, hf⟩ := A
  have hat : cl.slots[j.toNatClampNeg]? = some (.int (own_iv (f i))) := by
    rw [own_nat hj, (hf i hi).1]; obtain ⟨x, q⟩ := fit_I (hf i hi).2 (by simp); rw [q]; rfl
  exact X.iaload hx (by rw [eT]; exact Ar.1) (State.isArrayOf_alike hZ.alike Ar.2.1) Ar.2.2 (own_in hsz hj hi) hat hg hs hd target k
theorem own_ldJ (X : Stand p l e R s m args below meth c T locs cells slots) (hx : p.tables.exec = Jvm.exec) (hZ : Z.Warmed39 s.vm) (eT : T.heap = h) (A : own_Av Z h a .long n f) {j : Int32} {i : Nat} (hj : j.toInt = (i : Int)) (hi : i < n) {g : JFrame} (hg : g.method = m) {rest : List Value} (hs : g.stack = .int j :: .ref a :: rest) (hd : decode c.code g.pc = .ok (.laload, 1)) (target : State)
    (k : Steps p.tables e below (T.setTop { g with pc := g.pc + 1, stack := .long (own_jv (f i)) :: rest }) target) : Steps p.tables e below (T.setTop g) target := by
  obtain ⟨cl, Ar, hsz, hn, hf⟩ := A
  have hat : cl.slots[j.toNatClampNeg]? = some (.long (own_jv (f i))) := by
    rw [own_nat hj, (hf i hi).1]; obtain ⟨x, q⟩ := fit_J (hf i hi).2; rw [q]; rfl
  exact X.laload hx (by rw [eT]; exact Ar.1) (State.isArrayOf_alike hZ.alike Ar.2.1) Ar.2.2 (own_in hsz hj hi) hat hg hs hd target k
theorem own_len (X : Stand p l e R s m args below meth c T locs cells slots) (hx : p.tables.exec = Jvm.exec) (hZ : Z.Warmed39 s.vm) (eT : T.heap = h) {ty : FieldType} (A : own_Av Z h a ty n f) {z : Int32} (hz : z.toInt = (n : Int)) {g : JFrame} (hg : g.method = m) {rest : List Value} (hs : g.stack = .ref a :: rest) (hd : decode c.code g.pc = .ok (.arraylength, 1)) (target : State)
    (k : Steps p.tables e below (T.setTop { g with pc := g.pc + 1, stack := .int z :: rest }) target) : Steps p.tables e below (T.setTop g) target := by
  obtain ⟨cl, Ar, hsz, hn, hf⟩ := A
  refine X.arraylength hx (by rw [eT]; exact Ar.1) (State.isArrayOf_alike hZ.alike Ar.2.1) hg hs hd target ?_
  rw [len_of (z := z) (by rw [hsz, own_nat hz]) (own_nn hz)]; exact k
theorem own_stB (X : Stand p l e R s m args below meth c T locs cells slots) (hx : p.tables.exec = Jvm.exec) (hZ : Z.Warmed39 s.vm) (eT : T.heap = h) (A : own_Av Z h a .byte n f) {j x : Int32} {i : Nat} (hj : j.toInt = (i : Int)) (hi : i < n) {g : JFrame} (hg : g.method = m) {rest : List Value} (hs : g.stack = .int x :: .int j :: .ref a :: rest) (hd : decode c.code g.pc = .ok (.bastore, 1)) :
    ∃ T' h', Stand p l e R s m args below meth c T' (locs ++ [⟨a, i⟩]) cells slots ∧ T'.heap = h' ∧ Wr h h' a i (.int (nar .byte x)) ∧ own_Av Z h' a .byte n (own_up f i (.int (nar .byte x))) ∧ ∀ target, Steps p.tables e below (T'.setTop { g with pc := g.pc + 1, stack := rest }) target → Steps p.tables e below (T.setTop g) target := by
  obtain ⟨cl, Ar, hsz, hn, hf⟩ := A
  obtain ⟨T', h', X', e', W, st⟩ := stB X hx hZ eT Ar (own_in hsz hj hi) hg hs hd
  rw [own_nat hj] at X' W
  exact ⟨T', h', X', e', W, own_set Ar hsz hn hf W (fits_nar_byte _) hi, st⟩
theorem own_stI (X : Stand p l e R s m args below meth c T locs cells slots) (hx : p.tables.exec = Jvm.exec) (hZ : Z.Warmed39 s.vm) (eT : T.heap = h) (A : own_Av Z h a .int n f) {j x : Int32} {i : Nat} (hj : j.toInt = (i : Int)) (hi : i < n) {g : JFrame} (hg : g.method = m) {rest : List Value} (hs : g.stack = .int x :: .int j :: .ref a :: rest) (hd : decode c.code g.pc = .ok (.iastore, 1)) :
    ∃ T' h', Stand p l e R s m args below meth c T' (locs ++ [⟨a, i⟩]) cells slots ∧ T'.heap = h' ∧ Wr h h' a i (.int x) ∧ own_Av Z h' a .int n (own_up f i (.int x)) ∧ ∀ target, Steps p.tables e below (T'.setTop { g with pc := g.pc + 1, stack := rest }) target → Steps p.tables e below (T.setTop g) target := by
  obtain ⟨cl, Ar, hsz, hn, hf⟩ := A
  obtain ⟨T', h', X', e', W, st⟩ := stI X hx hZ eT Ar (own_in hsz hj hi) hg hs hd
  rw [own_nat hj] at X' W
  exact ⟨T', h', X', e', W, own_set Ar hsz hn hf W rfl hi, st⟩
theorem own_stJ (X : Stand p l e R s m args below meth c T locs cells slots) (hx : p.tables.exec = Jvm.exec) (hZ : Z.Warmed39 s.vm) (eT : T.heap = h) (A : own_Av Z h a .long n f) {j : Int32} {x : Int64} {i : Nat} (hj : j.toInt = (i : Int)) (hi : i < n) {g : JFrame} (hg : g.method = m) {rest : List Value} (hs : g.stack = .long x :: .int j :: .ref a :: rest) (hd : decode c.code g.pc = .ok (.lastore, 1)) :
    ∃ T' h', Stand p l e R s m args below meth c T' (locs ++ [⟨a, i⟩]) cells slots ∧ T'.heap = h' ∧ Wr h h' a i (.long x) ∧ own_Av Z h' a .long n (own_up f i (.long x)) ∧ ∀ target, Steps p.tables e below (T'.setTop { g with pc := g.pc + 1, stack := rest }) target → Steps p.tables e below (T.setTop g) target := by
  obtain ⟨cl, Ar, hsz, hn, hf⟩ := A
  obtain ⟨T', h', X', e', W, st⟩ := stJ X hx hZ eT Ar (own_in hsz hj hi) hg hs hd
  rw [own_nat hj] at X' W
  exact ⟨T', h', X', e', W, own_set Ar hsz hn hf W rfl hi, st⟩
end OwnArr
theorem own_n32 {n : Nat} (h : n < 2 ^ 31) : (Int32.ofNat n).toInt = (n : Int) := Int32.toInt_ofNat_of_lt h
theorem own_getD (f : Nat → Value) (n : Nat) (d : Value) {i : Nat} (h : i < n) : ((List.range n).map f).getD i d = f i := by
  rw [List.getD_eq_getElem?_getD, List.getElem?_map, List.getElem?_range h]; rfl
theorem own_Av.arv {Z : State} {h : Heap} {a : Addr} {ty : FieldType} {n : Nat} {f : Nat → Value} (A : own_Av Z h a ty n f) (d : Value) : ∃ k, Arv Z h a k ty (Int32.ofNat n) ((List.range n).map f) d := by
  obtain ⟨c, Ar, hs, hn, hf⟩ := A
  have e := own_nat (own_n32 hn)
  refine ⟨c.cls, c, Ar, rfl, by rw [e]; exact hs, own_nn (own_n32 hn), fun k hk => ?_, fun i hi => ?_⟩
  · rw [own_getD f n d (by omega)]; exact (hf k (by omega)).1
  · rw [own_getD f n d (by omega)]; exact (hf i (by omega)).2
theorem own_of_arv {Z : State} {h : Heap} {a : Addr} {k : ClassId} {ty : FieldType} {n : Nat} {vs : List Value} {d : Value} (hn : n < 2 ^ 31) (A : Arv Z h a k ty (Int32.ofNat n) vs d) : own_Av Z h a ty n (fun i => vs.getD i d) := by
  obtain ⟨c, Ar, -, hs, -, H, G⟩ := A
  rw [own_nat (own_n32 hn)] at hs
  exact ⟨c, Ar, hs, hn, fun i hi => ⟨H i (by omega), G i (by omega)⟩⟩
theorem own_of_arh {Z : State} {h : Heap} {a : Addr} {k : ClassId} {ty : FieldType} {n : Nat} {vs : List Value} {d : Value} (hn : n < 2 ^ 31) (A : Arh Z h a k ty (Int32.ofNat n) [] vs d) : own_Av Z h a ty n (fun i => vs.getD i d) := own_of_arv hn A
section OwnCopy
variable {p : Program} {l : Launch} {e : Env} {R : Room} {s : State} {m : MethodId} {args : Array Value} {below : List Frame} {meth : Method} {c : Code} {T : State} {locs : List Loc} {cells slots : Nat} {Z : State} {h : Heap} {a b : Addr}
theorem own_cpy (X : Stand p l e R s m args below meth c T locs cells slots) (hx : p.tables.exec = Jvm.exec) (hZ : Z.Warmed39 s.vm) {a0 : Array Value} {own : String} {index : Nat} (hown : s.vm.findClass own = some m.cls)
    (w1 : (Jvm.Cond.methodLink own index Jvm.Stand.acN).before a0 Z = true) (w2 : (Jvm.Cond.native Jvm.Stand.acN).before a0 Z = true) (w3 : (Jvm.Cond.static Jvm.Stand.acN).before a0 Z = true) (w4 : (Jvm.Cond.initialized "java/lang/System").before a0 Z = true) (eT : T.heap = h)
    {ty : FieldType} {n n' : Nat} {f g : Nat → Value} (A : own_Av Z h a ty n f) (B : own_Av Z h b ty n' g) (hty : refKind ty = false) {sp dp nn : Int32} {i j k : Nat} (hi : sp.toInt = (i : Int)) (hj : dp.toInt = (j : Int)) (hk : nn.toInt = (k : Int)) (h4 : i + k ≤ n) (h5 : j + k ≤ n') {n0 : Nat} (N : Fr n0 locs) (ge : n0 ≤ b)
    {fr : JFrame} (hg : fr.method = m) (hsize : fr.locals.size = c.maxLocals) {rest : List Value} (hs : fr.stack = .int nn :: .int dp :: .ref b :: .int sp :: .ref a :: rest) (hd : decode c.code fr.pc = .ok (.invokestatic index, 3))
    (hf : 1 ≤ R.frames) {W : Nat} (hW : 2 * fr.monitorRoom + (rest.map fun v => v.category).sum ≤ W) (hlo : W + (nativeFrameWords "java/lang/System" "arraycopy" 5 + 11) ≤ R.locals) :
    ∃ T' h' L, Stand p l e R s m args below meth c T' L cells slots ∧ T'.heap = h' ∧ Fr n0 L ∧ Keep h h' [b] ∧ own_Av Z h' b ty n' (fun q => if j ≤ q ∧ q < j + k then f (i + (q - j)) else g q) ∧
      ∀ target, Steps p.tables e below (T'.setTop { fr with pc := fr.pc + 3, stack := rest }) target → Steps p.tables e below (T.setTop fr) target := by
  have hn : n < 2 ^ 31 := by obtain ⟨_, _, _, q, _⟩ := A; exact q
  have hn' : n' < 2 ^ 31 := by obtain ⟨_, _, _, q, _⟩ := B; exact q
  obtain ⟨kA, A'⟩ := A.arv (.int 0)
  obtain ⟨kB, B'⟩ := B.arv (.int 0)
  obtain ⟨T', h', L, X', e', N', K, V, st⟩ := cpA X hx hZ hown w1 w2 w3 w4 eT A' B' (Or.inl ⟨rfl, hty⟩) (own_nn hi) (own_nn hj) (own_nn hk) (by rw [own_nat hi, own_nat hk, own_nat (own_n32 hn)]; exact h4) (by rw [own_nat hj, own_nat hk, own_nat (own_n32 hn')]; exact h5) rfl (by rw [own_nat hj, own_nat hk]; simpa using h5) N ge hg hsize hs hd hf hW hlo
  rw [own_nat hi, own_nat hj, own_nat hk] at V
  refine ⟨T', h', L, X', e', N', K, (own_of_arv hn' V).congr (fun q hq => ?_), st⟩
  simp only [List.getD_eq_getElem?_getD]
  have l1 : (((List.range n').map g).take j).length = j := by simp; omega
  have l2 : ∀ F : Nat → Value, ((List.range k).map F).length = k := fun F => by simp
  by_cases q1 : q < j
  · rw [if_neg (by omega), List.getElem?_append_left (by rw [List.length_append, l1]; omega), List.getElem?_append_left (by rw [l1]; exact q1), List.getElem?_take_of_lt q1, List.getElem?_map, List.getElem?_range hq]; rfl
  · by_cases q2 : q < j + k
    · rw [if_pos ⟨by omega, q2⟩, List.getElem?_append_left (by rw [List.length_append, l1, l2]; exact q2), List.getElem?_append_right (by rw [l1]; omega), l1, List.getElem?_map, List.getElem?_range (by omega)]
      show ((List.range n).map f).getD (i + (q - j)) (.int 0) = _
      exact own_getD f n _ (by omega)
    · rw [if_neg (by omega), List.getElem?_append_right (by rw [List.length_append, l1, l2]; omega), List.length_append, l1, l2, List.getElem?_drop, show j + k + (q - (j + k)) = q by omega, List.getElem?_map, List.getElem?_range hq]; rfl
theorem own_clone (X : Stand p l e R s m args below meth c T locs cells slots) (hx : p.tables.exec = Jvm.exec) (hZ : Z.Warmed39 s.vm) {a0 : Array Value} {own ad : String} {index : Nat} (hown : s.vm.findClass own = some m.cls)
    (w1 : (Jvm.Cond.methodLink own index ⟨ad, "clone", "()Ljava/lang/Object;"⟩).before a0 Z = true) (w2 : (Jvm.Cond.sameMethod ad "java/lang/Object" "clone" "()Ljava/lang/Object;").before a0 Z = true) (w3 : (Jvm.Cond.native ⟨"java/lang/Object", "clone", "()Ljava/lang/Object;"⟩).before a0 Z = true)
    (w4 : (Jvm.Cond.instanceMethod ⟨"java/lang/Object", "clone", "()Ljava/lang/Object;"⟩).before a0 Z = true) (w5 : (Jvm.Cond.selects ad ⟨ad, "clone", "()Ljava/lang/Object;"⟩ ⟨"java/lang/Object", "clone", "()Ljava/lang/Object;"⟩).before a0 Z = true) (w6 : (Jvm.Cond.castable ad "java/lang/Cloneable").before a0 Z = true)
    (eT : T.heap = h) {ty : FieldType} {n : Nat} {f : Nat → Value} (F : own_Av Z h a ty n f) (E : Exa Z h a ad) {g : JFrame} (hg : g.method = m) (hsize : g.locals.size = c.maxLocals) {rest : List Value} (hst : g.stack = .ref a :: rest) (hd : decode c.code g.pc = .ok (.invokevirtual index, 3))
    (hf : 1 ≤ R.frames) {W cap : Nat} (hW : 2 * g.monitorRoom + (rest.map fun v => v.category).sum ≤ W) (hl : W + 14 ≤ R.locals) (hcap : n ≤ cap) (hc : cells + 1 ≤ R.cells) (hsl : slots + cap ≤ R.slots) :
    ∃ T' h', Stand p l e R s m args below meth c T' locs (cells + 1) (slots + cap) ∧ T'.heap = h' ∧ Ext h h' ∧ own_Av Z h' h.size ty n f ∧ Exa Z h' h.size ad ∧
      ∀ target, Steps p.tables e below (T'.setTop { g with pc := g.pc + 3, stack := .ref h.size :: rest }) target → Steps p.tables e below (T.setTop g) target := by
  have hn : n < 2 ^ 31 := by obtain ⟨_, _, _, q, _⟩ := F; exact q
  obtain ⟨k, F'⟩ := F.arv (.int 0)
  obtain ⟨T', h', X', e', E', A', Ex', st⟩ := cloneH X hx hZ hown w1 w2 w3 w4 w5 w6 eT F'.arh E hg hsize hst hd hf hW hl (by rw [own_nat (own_n32 hn)]; exact hcap) hc hsl
  exact ⟨T', h', X', e', E', (own_of_arh hn A').congr (fun q hq => own_getD f n _ hq), Ex', st⟩
end OwnCopy
theorem own_selPriv {s : State} {args : Array Value} {y y' : MethodName} (hcls : y'.cls = y.cls) (w : (Jvm.Cond.selects y.cls y' y').before args s = true) (hp : s.PrivateAt y) (hi : (Jvm.Cond.instanceMethod y).before args s = true) (hy : y.cls ≠ "java/lang/invoke/MethodHandle" ∧ y.cls ≠ "java/lang/invoke/VarHandle") : (Jvm.Cond.selects y.cls y y).before args s = true := by
  obtain ⟨c, r, m, h1, -, h3, -, mk, h5, h6⟩ := Cond.selects_spec w
  have e : m.cls = c := Option.some.inj ((findClass_of_methodNamed h3).symm.trans (hcls ▸ h1))
  exact selects_self_of_private h1 (e ▸ h5) h6 hp hi hy
theorem own_metfreeW {l : Launch} {x : MethodName} {ws : List Jvm.Cond} {R : Room} {code : ByteArray} {maxL : Nat} {ret : Option FieldType} {as' : Array Value} {Z : State} {h0 : Heap} {Q : Option Value → Heap → List Loc → Prop} (hpl : plainFor x = true)
    (body : ∀ (p : Program) (e : Env) (s : State) (m : MethodId) (below : List Frame) (meth : Method) (c : Code) (s₁ : State),
      Stand p l e R s m as' below meth c s₁ [] 0 0 → p.tables.exec = Jvm.exec → c.code = code → c.maxLocals = maxL → meth.sig.returnType = ret → s.vm.findClass x.cls = some m.cls → meth.name = x.name → Z.Warmed39 s.vm → s₁.heap = h0 →
      ∀ G : State → Prop, (∀ U U', (∀ t, Steps p.tables e below U' t → Steps p.tables e below U t) → G U' → G U) →
        (∀ {T : State} {locs : List Loc} {cells slots : Nat} {vm1 : Vm} {k : Nat} (v : Option Value) (g : JFrame), Stand p l e R (s.setVm vm1) m as' below meth c T locs cells slots → s.Since vm1 k → k ≤ T.heap.size → (ret = none → v = none) →
          (∀ fs, (∀ (f : JFrame) (acts : List Action), f.method = m → f.locked = none → f.entered = [] → (doReturn e (T.setTop f) acts v).1 = T.setFrames fs) → Steps p.tables e below (T.setTop g) (T.setFrames fs)) →
          Q v T.heap locs → cells ≤ R.cells → slots ≤ R.slots → G (T.setTop g)) →
        G (s₁.setTop (entryFrame m as' maxL))) :
    MetFree l x (head1 (Jvm.Cond.code x code maxL ret :: ws) R) (fun a U => a = as' ∧ Z.Warmed39 U.vm ∧ U.heap = h0) (fun _ _ _ _ _ => True) (fun _ U o U' => ∃ v L, o = .returned v ∧ Q v U'.heap L ∧ ReturnedEndW U o U' L R.cells R.slots) := by
  refine MetFree.of_bodySF hpl hisR ?_
  intro p e s m args below meth c s₁ Bd hml0 hP hK
  obtain ⟨rfl, hZ, hh⟩ := hP
  have X0 : Stand p l e R s m args below meth c s₁ [] 0 0 := Stand.of_body Bd
  refine body p e s m below meth c s₁ X0 Bd.exec Bd.bytes hml0 Bd.returns (findClass_of_methodNamed Bd.named) (name_of_methodNamed Bd.named Bd.method).1 hZ (by rw [← hh, Bd.state]; rfl)
    (fun U => ∃ s₂ o, Steps p.tables e below U s₂ ∧ s₂.status = .running ∧ Ended s₂ below o ∧ ∃ v L, o = .returned v ∧ Q v s₂.heap L ∧ ReturnedEndW s o s₂ L R.cells R.slots) ?_ ?_
  · rintro U U' h ⟨s₂, o, h1, h2⟩
    exact ⟨s₂, o, h _ h1, h2⟩
  · intro T locs cells slots vm1 k v g X hS hk hv hst hq hc hs
    obtain ⟨fs, hr, hrun, hended, hE⟩ := X.leaveW hS hk (v := v) (by rw [Bd.returns]; exact hv)
    exact ⟨_, _, hst fs hr, hrun, hended, _, _, rfl, hq, hE.1, hE.2.1, hE.2.2.1, hE.2.2.2.mono hc hs⟩
def own_Sa (Z : State) (n0 : Nat) (h : Heap) (C n d : String) (v : Value) : Prop := ∃ (cf i : Nat) (k : Class) (f : Field) (st : Addr) (cell : Cell), (Z.fieldFound? C n d = some (cf, k, i, f) ∧ f.isStatic = true ∧ k.init = .initialized ∧ k.statics = some st) ∧ h[st]? = some cell ∧ (cell.vm.isStatics = true ∧ cell.slots[f.slot]? = some v) ∧ st < n0
section OwnSt
variable {Z : State} {n0 : Nat} {h h' : Heap} {C n d : String} {v : Value} {ws : List Addr} {a b o : Addr}
theorem own_Sa.sta (S : own_Sa Z n0 h C n d v) : Sta Z h C n d v := by
  obtain ⟨cf, i, k, f, st, cell, ⟨h1, h2, h3, h4⟩, h5, ⟨h6, h7⟩, -⟩ := S
  exact ⟨cf, i, k, f, st, cell, h1, h2, h3, h4, h5, h6, h7⟩
theorem own_Sa.of (S : Sta Z h C n d v) : own_Sa Z h.size h C n d v := by
  obtain ⟨cf, i, k, f, st, cell, h1, h2, h3, h4, h5, h6, h7⟩ := S
  exact ⟨cf, i, k, f, st, cell, ⟨h1, h2, h3, h4⟩, h5, ⟨h6, h7⟩, (Array.getElem?_eq_some_iff.mp h5).1⟩
theorem own_Sa.keep (S : own_Sa Z n0 h C n d v) (K : Keep h h' ws) (g : ∀ x ∈ ws, n0 ≤ x) : own_Sa Z n0 h' C n d v := by
  obtain ⟨cf, i, k, f, st, cell, h1, h5, h6, h8⟩ := S
  exact ⟨cf, i, k, f, st, cell, h1, K.2.1 _ _ h5 (fun hm => absurd (g _ hm) (Nat.not_le.mpr h8)), h6, h8⟩
def own_St (Z : State) (n0 : Nat) (h : Heap) : Prop := (∃ vz : Int32, ¬ (vz = (0 : Int32)) ∧ own_Sa Z n0 h "java/lang/String" "COMPACT_STRINGS" "Z" (.int vz)) ∧ ∃ v : Value, v.isRef = true ∧ own_Sa Z n0 h "jdk/internal/util/Preconditions" "SIOOBE_FORMATTER" "Ljava/util/function/BiFunction;" v
theorem own_St.keep (S : own_St Z n0 h) (K : Keep h h' ws) (g : ∀ x ∈ ws, n0 ≤ x) : own_St Z n0 h' := by
  obtain ⟨⟨vz, q, S1⟩, v, r, S2⟩ := S
  exact ⟨⟨vz, q, S1.keep K g⟩, v, r, S2.keep K g⟩
theorem own_ge0 : ∀ x ∈ ([] : List Addr), n0 ≤ x := fun _ q => nomatch q
theorem own_geS (g : n0 ≤ a) (r : ∀ x ∈ ws, n0 ≤ x) : ∀ x ∈ a :: ws, n0 ≤ x := fun x q => by
  rcases List.mem_cons.mp q with rfl | q
  · exact g
  · exact r _ q
theorem own_Av.ne {ty ty' : FieldType} {i j : Nat} {f g : Nat → Value} (A : own_Av Z h a ty i f) (B : own_Av Z h b ty' j g) (q : i ≠ j) : a ≠ b := fun e => by
  subst e
  obtain ⟨c, A1, A2, -⟩ := A
  obtain ⟨c', B1, B2, -⟩ := B
  cases A1.1.symm.trans B1.1
  exact q (A2.symm.trans B2)
theorem own_av_exa {ty : FieldType} {i kk : Nat} {f : Nat → Value} {a0 : Array Value} (A : own_Av Z h a ty i f) (E : Exa Z h o C) (wi : (Jvm.Cond.instantiable C kk).before a0 Z = true) : a ≠ o := fun e => by
  subst e
  obtain ⟨c, ⟨A1, ⟨-, k, hk, comp, hkind⟩, -⟩, -⟩ := A
  obtain ⟨c', k', e1, e2, e3, -⟩ := E
  cases A1.symm.trans e1
  obtain ⟨c2, k2, i1, i2, i3, -⟩ := Cond.instantiable_spec wi
  cases e2.symm.trans i1
  cases hk.symm.trans i2
  rw [hkind] at i3
  cases i3
theorem own_of_arvL {k : ClassId} {z : Int32} {vs : List Value} {N : Nat} (A : Arv Z h b k .byte z vs (.int 0)) (hz : z.toNatClampNeg = N) : own_Av Z h b .byte N (fun i => vs.getD i (.int 0)) := by
  obtain ⟨c, A1, -, A3, A4, A5, A6⟩ := A
  have hs : c.slots.size = N := by rw [A3, hz]
  refine ⟨c, A1, hs, ?_, fun i hi => ⟨A5 i (by omega), A6 i (by omega)⟩⟩
  rw [← hz]
  have := rng32 z
  rw [Int32.lt_iff_toInt_lt] at A4
  have k0 : (0 : Int32).toInt = 0 := by decide
  rw [Int32.toNatClampNeg]
  omega
theorem own_same {a0 : Array Value} {y y' : MethodName} (hd : (Jvm.Cond.declares y).before a0 Z = true) (hs : (Jvm.Cond.selects C y' y').before a0 Z = true) (e : y'.cls = y.cls) (hne : y.cls ≠ "java/lang/invoke/MethodHandle" ∧ y.cls ≠ "java/lang/invoke/VarHandle") : (Jvm.Cond.sameMethod y.cls y.cls y.name y.desc).before a0 Z = true := by
  obtain ⟨r0, meth, hn, hm, -, -⟩ := Cond.declares_spec hd
  have hf := State.methodFound?_of_named hn hne
  have hc := findClass_of_methodNamed hn
  obtain ⟨c2, r2, m2, q1, q2, q3, q4, kP, hkP, hkPi⟩ := Cond.selects_spec hs
  have hc2 := findClass_of_methodNamed q3
  rw [e, hc] at hc2
  have ec := Option.some.inj hc2
  have nf := notFace_of_selects hs
  obtain ⟨kr, hkr, hni⟩ := nf _ q3
  rw [← ec] at hkr
  simp [Cond.before, Cond.holds, Cond.value, hc, hf, hn, hkr, hni]
theorem own_backH {p : Program} {l : Launch} {e : Env} {R : Room} {s : State} {args : Array Value} {below : List Frame} {a0 : Array Value} {EL : List (String × Nat)} {vm0 : Vm} {y : MethodName} {bytes : ByteArray} {maxL : Nat} {ret : Option FieldType} {rm : Room} {len W : Nat} {as' : Array Value} {Q : Option Value → Heap → List Loc → Prop}
    (hM : MetFree l y (head1 [Cond.code y bytes maxL ret] rm) (fun a U => a = as' ∧ Z.Warmed39 U.vm ∧ U.heap = h ∧ CHv Z EL U.vm h) (fun _ _ _ _ _ => True) (fun _ U o U' => ∃ v L, o = .returned v ∧ Q v U'.heap L ∧ ReturnedEndW U o U' L rm.cells rm.slots))
    (hZ : Z.Warmed39 vm0) (wc : (Cond.code y bytes maxL ret).before a0 Z = true) (wz : (Cond.initialized y.cls).before a0 Z = true) (hf : rm.frames + 1 ≤ R.frames) (hl : W + (maxL + 11) + rm.locals ≤ R.locals) (hEL : EW Z a0 EL) (H : CHv Z EL vm0 h) :
    BackS l R p e below (s.setVm vm0) args y len W (fun A a => a = as' ∧ A.U.heap = h ∧ A.cells + rm.cells ≤ R.cells ∧ A.slots + rm.slots ≤ R.slots)
      (fun A _ v B => ∃ L, Q v B.U.heap L ∧ B.locs = A.locs ++ L ∧ B.cells = A.cells + rm.cells ∧ B.slots = A.slots + rm.slots) :=
  BackS.of_freeW (bytes := bytes) (maxL := maxL) (ret := ret) (E := fun _ _ o t L k n => k = rm.cells ∧ n = rm.slots ∧ ∃ v, o = .returned v ∧ Q v t.heap L) hM hf hl
    (fun m meth c A a Y hp => have hU : Z.Warmed39 A.U.vm := wtrans (s := s.setVm vm0) hZ Y.warmed
      ⟨by show (Cond.and _ .tt).before a A.U = true; rw [Cond.before_and, mv hU wc]; rfl, mv hU wc, mv hU wz, hp.2.2.1, hp.2.2.2⟩)
    (fun m meth c A a g mk Y hp => ⟨hp.1, wtrans (s := s.setVm vm0) hZ Y.warmed, hp.2.1, (CHv.at Y hZ hEL H).1⟩) (fun _ _ _ _ _ _ _ _ _ => trivial)
    (fun _ _ _ _ ⟨v, L, h1, h2, h3⟩ => ⟨L, _, _, h3, rfl, rfl, v, h1, h2⟩)
    (fun m meth c A a g mk v t L k n Y hp _ _ ⟨e1, e2, v', e3, e4⟩ => by cases e3; subst e1 e2; exact ⟨L, e4, rfl, rfl, rfl⟩)
end OwnSt
theorem own_metfreeH {l : Launch} {x : MethodName} {ws : List Jvm.Cond} {R : Room} {code : ByteArray} {maxL : Nat} {ret : Option FieldType} {as' : Array Value} {Z : State} {h0 : Heap} {EL : List (String × Nat)} {Q : Option Value → Heap → List Loc → Prop} (hpl : plainFor x = true)
    (body : ∀ (p : Program) (e : Env) (s : State) (m : MethodId) (below : List Frame) (meth : Method) (c : Code) (s₁ : State),
      Stand p l e R s m as' below meth c s₁ [] 0 0 → p.tables.exec = Jvm.exec → c.code = code → c.maxLocals = maxL → meth.sig.returnType = ret → s.vm.findClass x.cls = some m.cls → meth.name = x.name → Z.Warmed39 s.vm → s₁.heap = h0 → CHv Z EL s.vm h0 →
      ∀ G : State → Prop, (∀ U U', (∀ t, Steps p.tables e below U' t → Steps p.tables e below U t) → G U' → G U) →
        (∀ {T : State} {locs : List Loc} {cells slots : Nat} {vm1 : Vm} {k : Nat} (v : Option Value) (g : JFrame), Stand p l e R (s.setVm vm1) m as' below meth c T locs cells slots → s.Since vm1 k → k ≤ T.heap.size → (ret = none → v = none) →
          (∀ fs, (∀ (f : JFrame) (acts : List Action), f.method = m → f.locked = none → f.entered = [] → (doReturn e (T.setTop f) acts v).1 = T.setFrames fs) → Steps p.tables e below (T.setTop g) (T.setFrames fs)) →
          Q v T.heap locs → cells ≤ R.cells → slots ≤ R.slots → G (T.setTop g)) →
        G (s₁.setTop (entryFrame m as' maxL))) :
    MetFree l x (head1 (Jvm.Cond.code x code maxL ret :: ws) R) (fun a U => a = as' ∧ Z.Warmed39 U.vm ∧ U.heap = h0 ∧ CHv Z EL U.vm h0) (fun _ _ _ _ _ => True) (fun _ U o U' => ∃ v L, o = .returned v ∧ Q v U'.heap L ∧ ReturnedEndW U o U' L R.cells R.slots) := by
  refine MetFree.of_bodySF hpl hisR ?_
  intro p e s m args below meth c s₁ Bd hml0 hP hK
  obtain ⟨rfl, hZ, hh, hC⟩ := hP
  have X0 : Stand p l e R s m args below meth c s₁ [] 0 0 := Stand.of_body Bd
  refine body p e s m below meth c s₁ X0 Bd.exec Bd.bytes hml0 Bd.returns (findClass_of_methodNamed Bd.named) (name_of_methodNamed Bd.named Bd.method).1 hZ (by rw [← hh, Bd.state]; rfl) hC
    (fun U => ∃ s₂ o, Steps p.tables e below U s₂ ∧ s₂.status = .running ∧ Ended s₂ below o ∧ ∃ v L, o = .returned v ∧ Q v s₂.heap L ∧ ReturnedEndW s o s₂ L R.cells R.slots) ?_ ?_
  · rintro U U' h ⟨s₂, o, h1, h2⟩
    exact ⟨s₂, o, h _ h1, h2⟩
  · intro T locs cells slots vm1 k v g X hS hk hv hst hq hc hs
    obtain ⟨fs, hr, hrun, hended, hE⟩ := X.leaveW hS hk (v := v) (by rw [Bd.returns]; exact hv)
    exact ⟨_, _, hst fs hr, hrun, hended, _, _, rfl, hq, hE.1, hE.2.1, hE.2.2.1, hE.2.2.2.mono hc hs⟩
def own_min (a b : Int32) : Int32 := if b < a then b else a
def own_max (a b : Int32) : Int32 := if a < b then b else a
theorem own_min_val {a b : Int32} {n m : Nat} (ha : a.toInt = (n : Int)) (hb : b.toInt = (m : Int)) : (own_min a b).toInt = ((min n m : Nat) : Int) := by
  rw [own_min]; split
  · rename_i q; rw [Int32.lt_iff_toInt_lt] at q; rw [hb]; omega
  · rename_i q; rw [Int32.lt_iff_toInt_lt] at q; rw [ha]; omega
theorem own_addn {v : Int32} {i : Nat} {k : Int32} {n : Nat} (h : v.toInt = (i : Int)) (hk : k.toInt = (n : Int)) (hb : i + n < 100000) : (v + k).toInt = ((i + n : Nat) : Int) := by
  have h1 := c_iadd v k
  have h2 := rng32 (v + k)
  omega
theorem own_subn {v : Int32} {i : Nat} {k : Int32} {n : Nat} (h : v.toInt = (i : Int)) (hk : k.toInt = (n : Int)) (hb : n ≤ i) (hi : i < 100000) : (v - k).toInt = ((i - n : Nat) : Int) := by
  have h1 := c_isub v k
  have h2 := rng32 (v - k)
  omega
theorem own_lt {v c : Int32} {o n : Nat} (h : v.toInt = (o : Int)) (hc : c.toInt = (n : Int)) : v < c ↔ o < n := by rw [Int32.lt_iff_toInt_lt]; omega
theorem own_eqn {v c : Int32} {o n : Nat} (h : v.toInt = (o : Int)) (hc : c.toInt = (n : Int)) : v = c ↔ o = n := by rw [← Int32.toInt_inj]; omega
theorem own_remn {q d : Int32} {n : Nat} (hd : d.toInt = (n : Int)) (hn : 0 < n) : ∃ m : Nat, ((q &&& (2147483647 : Int32)) % d).toInt = (m : Int) ∧ m < n := by
  have h1 := c_mask q (2147483647 : Int32) 31 (by decide) (by decide)
  have h2 := (c_iremV (q &&& (2147483647 : Int32)) d).1 (by omega) (by omega)
  exact ⟨((q &&& (2147483647 : Int32)) % d).toInt.toNat, by omega, by omega⟩
theorem own_ofn {z : Int32} {c : Nat} (h : z.toInt = (c : Int)) : z = Int32.ofNat c := by
  have := rng32 z
  apply Int32.toInt_inj.mp
  rw [Int32.toInt_ofNat_of_lt (by omega), h]
theorem own_max_val {a b : Int32} {n m : Nat} (ha : a.toInt = (n : Int)) (hb : b.toInt = (m : Int)) : (own_max a b).toInt = ((max n m : Nat) : Int) := by
  rw [own_max]; split
  · rename_i q; rw [Int32.lt_iff_toInt_lt] at q; rw [hb]; omega
  · rename_i q; rw [Int32.lt_iff_toInt_lt] at q; rw [ha]; omega
theorem own_sh0r (x : Int32) : x >>> ((0 : Int32) &&& 31) = x := by
  have e : ((0 : Int32) &&& 31) = 0 := by decide
  rw [e]; exact Int32.shiftRight_zero
theorem own_sh0l (x : Int32) : x <<< ((0 : Int32) &&& 31) = x := by
  have e : ((0 : Int32) &&& 31) = 0 := by decide
  rw [e]; exact Int32.shiftLeft_zero
theorem own_sub0 (x : Int32) : x - (0 : Int32) = x := Int32.sub_zero x
theorem own_18 : ((16 : Int32) + (2 : Int32)) = (18 : Int32) := by decide
def own_app (g : Nat → Value) (cc kk : Nat) (f : Nat → Value) : Nat → Value := fun q => if cc ≤ q ∧ q < cc + kk then f (0 + (q - cc)) else g q
def own_exp (i : Nat) : Int32 := if i % 3 = 0 then (63 : Int32) else if i % 3 = 1 then (44 : Int32) else (32 : Int32)
theorem own_exp3 (i : Nat) : own_exp i = 63 ∨ own_exp i = 44 ∨ own_exp i = 32 := by
  rw [own_exp]; split
  · exact Or.inl rfl
  · split
    · exact Or.inr (Or.inl rfl)
    · exact Or.inr (Or.inr rfl)
theorem own_exp_last {n : Nat} (h : 1 ≤ n) : own_exp (3 * n - 3) = (63 : Int32) := by rw [own_exp, if_pos (by omega)]
theorem own_capn {q : Int32} {mc : Nat} (h : q.toInt = (mc : Int)) (hm : mc < 100000) : (0 : Int32) < (q - (16 : Int32)) ↔ 16 < mc := by
  have k0 : (0 : Int32).toInt = 0 := by decide
  have k16 : (16 : Int32).toInt = 16 := by decide
  have a := c_isub q (16 : Int32)
  have r := rng32 (q - (16 : Int32))
  rw [k16, h] at a
  rw [Int32.lt_iff_toInt_lt, k0]
  generalize (q - (16 : Int32)).toInt = z at *
  omega
theorem own_dmax {q : Int32} {j : Nat} (h : q.toInt = (j : Int)) (h1 : 1 ≤ j) (h2 : j ≤ 100) : ¬ ((2147483647 : Int32) / q) < (3 : Int32) := by
  have e := own_ofn h
  have e2 : (2147483647 : Int32) / q = Int32.ofNat (2147483647 / j) := by
    rw [e, Int32.ofNat_div (by decide) (by omega)]; rfl
  have b : 2147483647 / 100 ≤ 2147483647 / j := Nat.div_le_div_left h2 h1
  have b2 : 2147483647 / j ≤ 2147483647 := Nat.div_le_self _ _
  have k3 : (3 : Int32).toInt = 3 := by decide
  rw [e2, Int32.lt_iff_toInt_lt, own_n32 (by omega), k3]
  generalize 2147483647 / j = z at *
  omega
theorem own_mul3 {q : Int32} {j : Nat} (h : q.toInt = (j : Int)) (h2 : j ≤ 1000) : ((3 : Int32) * q).toInt = ((3 * j : Nat) : Int) := by
  have k3 : (3 : Int32).toInt = 3 := by decide
  have a := c_imul (3 : Int32) q
  have r := rng32 ((3 : Int32) * q)
  rw [k3, h] at a
  generalize ((3 : Int32) * q).toInt = z at *
  omega
theorem own_shl1 {q : Int32} {j : Nat} (h : q.toInt = (j : Int)) (h2 : j ≤ 1000) : (q <<< ((1 : Int32) &&& 31)).toInt = ((2 * j : Nat) : Int) := by
  have a := c_ishl q (1 : Int32) 1 (by decide)
  have r := rng32 (q <<< ((1 : Int32) &&& 31))
  rw [h] at a
  generalize (q <<< ((1 : Int32) &&& 31)).toInt = z at *
  omega
theorem own_ch {w : Int32} (h : w = 63 ∨ w = 44 ∨ w = 32) : ((w &&& (255 : Int32)).toUInt32.toUInt16.toUInt32.toInt32) = w := by
  rcases h with rfl | rfl | rfl <;> decide
theorem own_narC {w : Int32} (h : w = 63 ∨ w = 44 ∨ w = 32) : narrow .char (.int w) = .int w := by
  rcases h with rfl | rfl | rfl <;> rfl
theorem own_n64 (q : Int32) : ∃ n : Nat, ((1 : Int32) + (q &&& (63 : Int32))).toInt = (n : Int) ∧ 1 ≤ n ∧ n ≤ 64 := by
  have k1 : (1 : Int32).toInt = 1 := by decide
  have h1 := c_mask q (63 : Int32) 6 (by decide) (by decide)
  have a := c_iadd (1 : Int32) (q &&& (63 : Int32))
  have r := rng32 ((1 : Int32) + (q &&& (63 : Int32)))
  exact ⟨((1 : Int32) + (q &&& (63 : Int32))).toInt.toNat, by omega, by omega, by omega⟩
theorem own_per {F f : Nat → Value} {cc lim : Nat} (h3 : cc % 3 = 0) (h0 : 3 ≤ cc) (hF : ∀ i, i < cc → F i = f (i % 3)) (kk : Nat) (hk : kk ≤ cc) :
    ∀ i, i < cc + kk → (fun q => if cc ≤ q ∧ q < cc + kk then F (0 + (q - cc)) else F q) i = f (i % 3) := by
  intro i hi
  show (if cc ≤ i ∧ i < cc + kk then F (0 + (i - cc)) else F i) = _
  split
  · rename_i q
    rw [hF _ (by omega), show (0 + (i - cc)) % 3 = i % 3 by omega]
  · rename_i q
    exact hF _ (by omega)
def own_lit3 : Nat → Value := fun i => [Value.int 44, Value.int 32, Value.int 63].getD i (.int 0)
def own_lit1 : Nat → Value := fun i => [Value.int 63].getD i (.int 0)
theorem own_lit3_exp (i : Nat) : own_lit3 (i % 3) = .int (own_exp (1 + i)) := by
  have h : i % 3 = 0 ∨ i % 3 = 1 ∨ i % 3 = 2 := by omega
  rw [own_exp]
  rcases h with h | h | h
  · rw [h, if_neg (by omega), if_pos (by omega)]; rfl
  · rw [h, if_neg (by omega), if_neg (by omega)]; rfl
  · rw [h, if_pos (by omega)]; rfl
theorem own_txt {kk : Nat} {ff f2 g1 : Nat → Value} (h : ∀ i, i < 1 + kk → ff i = own_app g1 1 kk f2 i) (hg : g1 0 = .int 63) (hf : ∀ i, i < kk → f2 i = own_lit3 (i % 3)) : ∀ i, i < 1 + kk → ff i = .int (own_exp i) := by
  intro i hi
  rw [h i hi, own_app]
  rcases Nat.eq_zero_or_pos i with q | q
  · subst q
    rw [if_neg (by omega), hg]; rfl
  · rw [if_pos ⟨q, hi⟩, hf _ (by omega), own_lit3_exp, show 1 + (0 + (i - 1)) = i by omega]
theorem own_app1 (g : Nat → Value) : own_app g 0 1 own_lit1 0 = .int 63 := rfl
theorem own_nface {s : State} {args : Array Value} {C : String} {y y' : MethodName} (hs : (Jvm.Cond.selects C y' y').before args s = true) (e : y'.cls = y.cls) : NotFace s y := fun r0 h0 => by
  obtain ⟨c2, r2, m2, q1, q2, q3, q4, kP, hkP, hkPi⟩ := Cond.selects_spec hs
  have a1 := findClass_of_methodNamed h0
  have a2 := findClass_of_methodNamed q3
  rw [e, a1] at a2
  obtain ⟨kr, hkr, hni⟩ := notFace_of_selects hs _ q3
  exact ⟨kr, by rw [Option.some.inj a2]; exact hkr, hni⟩
theorem own_decl {Z : State} {a0 : Array Value} {y : MethodName} {bytes : ByteArray} {maxL : Nat} {ret : Option FieldType} (hi : (Jvm.Cond.instanceMethod y).before a0 Z = true) (hc : (Jvm.Cond.code y bytes maxL ret).before a0 Z = true) : (Jvm.Cond.declares y).before a0 Z = true := by
  obtain ⟨mk, methM, hnamed, hmethM, hstM, habM⟩ := Cond.instanceMethod_spec hi
  obtain ⟨m2, cM, q1, -, -, -, -, -, -, hsig⟩ := Cond.code_spec hnamed hc
  cases hmethM.symm.trans q1
  simp [Cond.before, Cond.holds, Cond.value, hnamed, hmethM, hstM, hsig]
theorem own_strs : ∀ a ∈ Bundle.stringAtoms, a ∈ tables_1 := by
  intro a ha
  simp only [Bundle.stringAtoms, List.mem_cons, List.not_mem_nil, or_false] at ha
  rcases ha with rfl | rfl | rfl | rfl | rfl | rfl | rfl
  all_goals decide +kernel
theorem own_EL {Z : State} {a0 : Array Value} (hw : ∀ d ∈ tables_1, d.before a0 Z = true) : EW Z a0 consts_1 :=
  EW.cons (hw _ (List.mem_of_getElem? (i := 26) rfl)) (by decide) (EW.cons (hw _ (List.mem_of_getElem? (i := 82) rfl)) (by decide) (EW.cons (hw _ (List.mem_of_getElem? (i := 88) rfl)) (by decide) EW.nil))

theorem own_ef8 (m : MethodId) (o0 : Addr) : entryFrame m #[(.ref o0)] 1 = mkF m 0 #[.val (.ref o0)] [] := by first | (simp [entryFrame, mkF, argsToLocals, Value.category]; done) | rfl
theorem own_pn8 : plainName "java/lang/String" = true := by first | (simp [plainName, overriddenIn]; done) | decide +kernel
theorem d8_0 : decode jdk_42_method_152_code 0 = .ok (.getstatic 38, 3) := by decide +kernel
theorem d8_3 : decode jdk_42_method_152_code 3 = .ok (.ifCond .eq 10, 3) := by decide +kernel
theorem d8_6 : decode jdk_42_method_152_code 6 = .ok (.aload_n 0, 1) := by decide +kernel
theorem d8_7 : decode jdk_42_method_152_code 7 = .ok (.getfield 15, 3) := by decide +kernel
theorem d8_10 : decode jdk_42_method_152_code 10 = .ok (.goto 4, 3) := by decide +kernel
theorem d8_14 : decode jdk_42_method_152_code 14 = .ok (.ireturn, 1) := by decide +kernel
def own_Q8 (Z : State) (o0 : Addr) (h0 : Heap) (n0 : Nat) (v : Option Value) (h : Heap) (L : List Loc) : Prop := v = some (.int (0 : Int32)) ∧ Fr n0 L ∧ h = h0
set_option maxRecDepth 65536 in
set_option maxHeartbeats 40000000 in
theorem rm8 (l : Launch) (Z : State) (a0 : Array Value) (hw : ∀ d ∈ tables_1, d.before a0 Z = true) (ws : List Jvm.Cond) (o0 : Addr) (h0 : Heap) (n0 : Nat) (Z0 : n0 ≤ h0.size) (PS : own_St Z n0 h0) (PC : Fld Z h0 o0 "java/lang/String" "coder" "B" (.int (0 : Int32))) :
    MetFree l (⟨"java/lang/String", "coder", "()B"⟩ : MethodName) (head1 (Jvm.Cond.code (⟨"java/lang/String", "coder", "()B"⟩ : MethodName) jdk_42_method_152_code 1 (some .byte) :: ws) ({ frames := 0, cells := 0, slots := 0, locals := 0 } : Room)) (fun a U => a = #[(.ref o0)] ∧ Z.Warmed39 U.vm ∧ U.heap = h0) (fun _ _ _ _ _ => True) (fun _ U o U' => ∃ v L, o = .returned v ∧ own_Q8 Z o0 h0 n0 v U'.heap L ∧ FrameEnd U o U' L ({ frames := 0, cells := 0, slots := 0, locals := 0 } : Room).cells ({ frames := 0, cells := 0, slots := 0, locals := 0 } : Room).slots) := by
  refine own_metfree (Q := own_Q8 Z o0 h0 n0) (plainFor_of_name own_pn8) ?_
  intro p e s m below meth c s₁ X0 hx hby hml hret hown hnm hZ e0 G go fin
  have N0 := Fr.nil n0
  refine go _ (s₁.setTop (mkF m 0 #[.val (.ref o0)] [])) (fun t k => castTop (own_ef8 m o0) k) ?_
  obtain ⟨⟨vz1, hz1, Sz1⟩, -⟩ := (id PS)
  obtain ⟨T1, X1, e1, st1⟩ := getS (host := "") X0 hx hZ hown (hw _ (List.mem_of_getElem? (i := 53) rfl)) Via.refl e0 Sz1.sta (g := (mkF m 0 #[.val (.ref o0)] [])) rfl (hb hby d8_0)
  refine go _ (T1.setTop (mkF m 3 #[.val (.ref o0)] [(.int vz1)])) st1 ?_
  have hc3 : ¬ (vz1 = (0 : Int32)) := by exact hz1
  refine go _ (T1.setTop (mkF m 6 #[.val (.ref o0)] [])) (fun t k => XS.ifNo X1.here hx rfl (hb hby d8_3) rfl ((if0 _ _).trans (feq hc3).1) k) ?_
  refine go _ (T1.setTop (mkF m 7 #[.val (.ref o0)] [(.ref o0)])) (fun t k => XS.aloadN X1.here hx rfl (hb hby d8_6) rfl rfl k) ?_
  obtain ⟨T2, X2, e2, st2⟩ := getF X1 hx hZ hown (host := "") (Or.inl (hw _ (List.mem_of_getElem? (i := 54) rfl))) Via.refl e1 PC (g := (mkF m 7 #[.val (.ref o0)] [(.ref o0)])) rfl rfl (hb hby d8_7)
  refine go _ (T2.setTop (mkF m 10 #[.val (.ref o0)] [(.int (0 : Int32))])) st2 ?_
  refine go _ (T2.setTop (mkF m 14 #[.val (.ref o0)] [(.int (0 : Int32))])) (fun t k => XS.goto X2.here hx rfl (pc0 := 10) (pc' := 14) rfl (hb hby d8_10) (by decide) (by decide) k) ?_
  refine fin (some (.int (0 : Int32))) (mkF m 14 #[.val (.ref o0)] [(.int (0 : Int32))]) X2 (fun h => by cases h) (fun fs hr => retOut X2 hx (t := .byte) hret rfl (Or.inl ⟨rfl, by simp, _, rfl⟩) (hb hby d8_14) hr) ?_ (by decide) (by decide)
  try rw [e2]
  exact ⟨rfl, N0, rfl⟩
theorem own_ef26 (m : MethodId) (o0 : Addr) : entryFrame m #[(.ref o0)] 1 = mkF m 0 #[.val (.ref o0)] [] := by first | (simp [entryFrame, mkF, argsToLocals, Value.category]; done) | rfl
theorem own_pn26 : plainName "java/lang/String" = true := by first | (simp [plainName, overriddenIn]; done) | decide +kernel
theorem d26_0 : decode jdk_42_method_154_code 0 = .ok (.getstatic 38, 3) := by decide +kernel
theorem d26_3 : decode jdk_42_method_154_code 3 = .ok (.ifCond .eq 14, 3) := by decide +kernel
theorem d26_6 : decode jdk_42_method_154_code 6 = .ok (.aload_n 0, 1) := by decide +kernel
theorem d26_7 : decode jdk_42_method_154_code 7 = .ok (.getfield 15, 3) := by decide +kernel
theorem d26_10 : decode jdk_42_method_154_code 10 = .ok (.ifCond .ne 7, 3) := by decide +kernel
theorem d26_13 : decode jdk_42_method_154_code 13 = .ok (.iconst 1, 1) := by decide +kernel
theorem d26_14 : decode jdk_42_method_154_code 14 = .ok (.goto 4, 3) := by decide +kernel
theorem d26_18 : decode jdk_42_method_154_code 18 = .ok (.ireturn, 1) := by decide +kernel
def own_Q26 (Z : State) (o0 : Addr) (h0 : Heap) (n0 : Nat) (v : Option Value) (h : Heap) (L : List Loc) : Prop := v = some (.int (1 : Int32)) ∧ Fr n0 L ∧ h = h0
set_option maxRecDepth 65536 in
set_option maxHeartbeats 40000000 in
theorem rm26 (l : Launch) (Z : State) (a0 : Array Value) (hw : ∀ d ∈ tables_1, d.before a0 Z = true) (ws : List Jvm.Cond) (o0 : Addr) (h0 : Heap) (n0 : Nat) (Z0 : n0 ≤ h0.size) (PS : own_St Z n0 h0) (PC : Fld Z h0 o0 "java/lang/String" "coder" "B" (.int (0 : Int32))) :
    MetFree l (⟨"java/lang/String", "isLatin1", "()Z"⟩ : MethodName) (head1 (Jvm.Cond.code (⟨"java/lang/String", "isLatin1", "()Z"⟩ : MethodName) jdk_42_method_154_code 1 (some .boolean) :: ws) ({ frames := 0, cells := 0, slots := 0, locals := 0 } : Room)) (fun a U => a = #[(.ref o0)] ∧ Z.Warmed39 U.vm ∧ U.heap = h0) (fun _ _ _ _ _ => True) (fun _ U o U' => ∃ v L, o = .returned v ∧ own_Q26 Z o0 h0 n0 v U'.heap L ∧ FrameEnd U o U' L ({ frames := 0, cells := 0, slots := 0, locals := 0 } : Room).cells ({ frames := 0, cells := 0, slots := 0, locals := 0 } : Room).slots) := by
  refine own_metfree (Q := own_Q26 Z o0 h0 n0) (plainFor_of_name own_pn26) ?_
  intro p e s m below meth c s₁ X0 hx hby hml hret hown hnm hZ e0 G go fin
  have N0 := Fr.nil n0
  refine go _ (s₁.setTop (mkF m 0 #[.val (.ref o0)] [])) (fun t k => castTop (own_ef26 m o0) k) ?_
  obtain ⟨⟨vz1, hz1, Sz1⟩, -⟩ := (id PS)
  obtain ⟨T1, X1, e1, st1⟩ := getS (host := "") X0 hx hZ hown (hw _ (List.mem_of_getElem? (i := 53) rfl)) Via.refl e0 Sz1.sta (g := (mkF m 0 #[.val (.ref o0)] [])) rfl (hb hby d26_0)
  refine go _ (T1.setTop (mkF m 3 #[.val (.ref o0)] [(.int vz1)])) st1 ?_
  have hc3 : ¬ (vz1 = (0 : Int32)) := by exact hz1
  refine go _ (T1.setTop (mkF m 6 #[.val (.ref o0)] [])) (fun t k => XS.ifNo X1.here hx rfl (hb hby d26_3) rfl ((if0 _ _).trans (feq hc3).1) k) ?_
  refine go _ (T1.setTop (mkF m 7 #[.val (.ref o0)] [(.ref o0)])) (fun t k => XS.aloadN X1.here hx rfl (hb hby d26_6) rfl rfl k) ?_
  obtain ⟨T2, X2, e2, st2⟩ := getF X1 hx hZ hown (host := "") (Or.inl (hw _ (List.mem_of_getElem? (i := 54) rfl))) Via.refl e1 PC (g := (mkF m 7 #[.val (.ref o0)] [(.ref o0)])) rfl rfl (hb hby d26_7)
  refine go _ (T2.setTop (mkF m 10 #[.val (.ref o0)] [(.int (0 : Int32))])) st2 ?_
  have hc10 : (0 : Int32) = (0 : Int32) := by decide
  refine go _ (T2.setTop (mkF m 13 #[.val (.ref o0)] [])) (fun t k => XS.ifNo X2.here hx rfl (hb hby d26_10) rfl ((if0 _ _).trans (teq hc10).2) k) ?_
  refine go _ (T2.setTop (mkF m 14 #[.val (.ref o0)] [(.int (1 : Int32))])) (fun t k => XS.iconst X2.here hx rfl (hb hby d26_13) k) ?_
  refine go _ (T2.setTop (mkF m 18 #[.val (.ref o0)] [(.int (1 : Int32))])) (fun t k => XS.goto X2.here hx rfl (pc0 := 14) (pc' := 18) rfl (hb hby d26_14) (by decide) (by decide) k) ?_
  refine fin (some (.int (1 : Int32))) (mkF m 18 #[.val (.ref o0)] [(.int (1 : Int32))]) X2 (fun h => by cases h) (fun fs hr => retOut X2 hx (t := .boolean) hret rfl (Or.inl ⟨rfl, by simp, _, rfl⟩) (hb hby d26_18) hr) ?_ (by decide) (by decide)
  try rw [e2]
  exact ⟨rfl, N0, rfl⟩
theorem own_ef20 (m : MethodId) (o0 : Addr) : entryFrame m #[(.ref o0)] 1 = mkF m 0 #[.val (.ref o0)] [] := by first | (simp [entryFrame, mkF, argsToLocals, Value.category]; done) | rfl
theorem own_pn20 : plainName "java/lang/AbstractStringBuilder" = true := by first | (simp [plainName, overriddenIn]; done) | decide +kernel
theorem d20_0 : decode jdk_68_method_68_code 0 = .ok (.getstatic 18, 3) := by decide +kernel
theorem d20_3 : decode jdk_68_method_68_code 3 = .ok (.ifCond .eq 14, 3) := by decide +kernel
theorem d20_6 : decode jdk_68_method_68_code 6 = .ok (.aload_n 0, 1) := by decide +kernel
theorem d20_7 : decode jdk_68_method_68_code 7 = .ok (.getfield 22, 3) := by decide +kernel
theorem d20_10 : decode jdk_68_method_68_code 10 = .ok (.ifCond .ne 7, 3) := by decide +kernel
theorem d20_13 : decode jdk_68_method_68_code 13 = .ok (.iconst 1, 1) := by decide +kernel
theorem d20_14 : decode jdk_68_method_68_code 14 = .ok (.goto 4, 3) := by decide +kernel
theorem d20_18 : decode jdk_68_method_68_code 18 = .ok (.ireturn, 1) := by decide +kernel
def own_Q20 (Z : State) (o0 : Addr) (h0 : Heap) (n0 : Nat) (v : Option Value) (h : Heap) (L : List Loc) : Prop := v = some (.int (1 : Int32)) ∧ Fr n0 L ∧ h = h0
set_option maxRecDepth 65536 in
set_option maxHeartbeats 40000000 in
theorem rm20 (l : Launch) (Z : State) (a0 : Array Value) (hw : ∀ d ∈ tables_1, d.before a0 Z = true) (ws : List Jvm.Cond) (o0 : Addr) (h0 : Heap) (n0 : Nat) (Z0 : n0 ≤ h0.size) (PS : own_St Z n0 h0) (PC : Fld Z h0 o0 "java/lang/AbstractStringBuilder" "coder" "B" (.int (0 : Int32))) :
    MetFree l (⟨"java/lang/AbstractStringBuilder", "isLatin1", "()Z"⟩ : MethodName) (head1 (Jvm.Cond.code (⟨"java/lang/AbstractStringBuilder", "isLatin1", "()Z"⟩ : MethodName) jdk_68_method_68_code 1 (some .boolean) :: ws) ({ frames := 0, cells := 0, slots := 0, locals := 0 } : Room)) (fun a U => a = #[(.ref o0)] ∧ Z.Warmed39 U.vm ∧ U.heap = h0) (fun _ _ _ _ _ => True) (fun _ U o U' => ∃ v L, o = .returned v ∧ own_Q20 Z o0 h0 n0 v U'.heap L ∧ FrameEnd U o U' L ({ frames := 0, cells := 0, slots := 0, locals := 0 } : Room).cells ({ frames := 0, cells := 0, slots := 0, locals := 0 } : Room).slots) := by
  refine own_metfree (Q := own_Q20 Z o0 h0 n0) (plainFor_of_name own_pn20) ?_
  intro p e s m below meth c s₁ X0 hx hby hml hret hown hnm hZ e0 G go fin
  have N0 := Fr.nil n0
  refine go _ (s₁.setTop (mkF m 0 #[.val (.ref o0)] [])) (fun t k => castTop (own_ef20 m o0) k) ?_
  obtain ⟨⟨vz1, hz1, Sz1⟩, -⟩ := (id PS)
  obtain ⟨T1, X1, e1, st1⟩ := getS (host := "") X0 hx hZ hown (hw _ (List.mem_of_getElem? (i := 19) rfl)) Via.refl e0 Sz1.sta (g := (mkF m 0 #[.val (.ref o0)] [])) rfl (hb hby d20_0)
  refine go _ (T1.setTop (mkF m 3 #[.val (.ref o0)] [(.int vz1)])) st1 ?_
  have hc3 : ¬ (vz1 = (0 : Int32)) := by exact hz1
  refine go _ (T1.setTop (mkF m 6 #[.val (.ref o0)] [])) (fun t k => XS.ifNo X1.here hx rfl (hb hby d20_3) rfl ((if0 _ _).trans (feq hc3).1) k) ?_
  refine go _ (T1.setTop (mkF m 7 #[.val (.ref o0)] [(.ref o0)])) (fun t k => XS.aloadN X1.here hx rfl (hb hby d20_6) rfl rfl k) ?_
  obtain ⟨T2, X2, e2, st2⟩ := getF X1 hx hZ hown (host := "") (Or.inl (hw _ (List.mem_of_getElem? (i := 24) rfl))) Via.refl e1 PC (g := (mkF m 7 #[.val (.ref o0)] [(.ref o0)])) rfl rfl (hb hby d20_7)
  refine go _ (T2.setTop (mkF m 10 #[.val (.ref o0)] [(.int (0 : Int32))])) st2 ?_
  have hc10 : (0 : Int32) = (0 : Int32) := by decide
  refine go _ (T2.setTop (mkF m 13 #[.val (.ref o0)] [])) (fun t k => XS.ifNo X2.here hx rfl (hb hby d20_10) rfl ((if0 _ _).trans (teq hc10).2) k) ?_
  refine go _ (T2.setTop (mkF m 14 #[.val (.ref o0)] [(.int (1 : Int32))])) (fun t k => XS.iconst X2.here hx rfl (hb hby d20_13) k) ?_
  refine go _ (T2.setTop (mkF m 18 #[.val (.ref o0)] [(.int (1 : Int32))])) (fun t k => XS.goto X2.here hx rfl (pc0 := 14) (pc' := 18) rfl (hb hby d20_14) (by decide) (by decide) k) ?_
  refine fin (some (.int (1 : Int32))) (mkF m 18 #[.val (.ref o0)] [(.int (1 : Int32))]) X2 (fun h => by cases h) (fun fs hr => retOut X2 hx (t := .boolean) hret rfl (Or.inl ⟨rfl, by simp, _, rfl⟩) (hb hby d20_18) hr) ?_ (by decide) (by decide)
  try rw [e2]
  exact ⟨rfl, N0, rfl⟩
theorem own_ef7 (m : MethodId) (o0 : Addr) : entryFrame m #[(.ref o0)] 1 = mkF m 0 #[.val (.ref o0)] [] := by first | (simp [entryFrame, mkF, argsToLocals, Value.category]; done) | rfl
theorem own_pn7 : plainName "java/lang/String" = true := by first | (simp [plainName, overriddenIn]; done) | decide +kernel
theorem d7_0 : decode jdk_42_method_54_code 0 = .ok (.aload_n 0, 1) := by decide +kernel
theorem d7_1 : decode jdk_42_method_54_code 1 = .ok (.getfield 9, 3) := by decide +kernel
theorem d7_4 : decode jdk_42_method_54_code 4 = .ok (.arraylength, 1) := by decide +kernel
theorem d7_5 : decode jdk_42_method_54_code 5 = .ok (.aload_n 0, 1) := by decide +kernel
theorem d7_6 : decode jdk_42_method_54_code 6 = .ok (.invokevirtual 335, 3) := by decide +kernel
theorem own_pd_0 : parseMethodDescriptor "()B" = some ⟨[], some .byte⟩ := by decide +kernel
theorem d7_9 : decode jdk_42_method_54_code 9 = .ok (.ishr, 1) := by decide +kernel
theorem d7_10 : decode jdk_42_method_54_code 10 = .ok (.ireturn, 1) := by decide +kernel
def own_Q7 (Z : State) (o0 : Addr) (sb : Addr) (kk : Nat) (f : Nat → Value) (h0 : Heap) (n0 : Nat) (v : Option Value) (h : Heap) (L : List Loc) : Prop := v = some (.int (Int32.ofNat kk)) ∧ Fr n0 L ∧ h = h0
set_option maxRecDepth 65536 in
set_option maxHeartbeats 40000000 in
theorem rm7 (l : Launch) (Z : State) (a0 : Array Value) (hw : ∀ d ∈ tables_1, d.before a0 Z = true) (ws : List Jvm.Cond) (o0 : Addr) (sb : Addr) (kk : Nat) (f : Nat → Value) (h0 : Heap) (n0 : Nat) (Z0 : n0 ≤ h0.size) (PS : own_St Z n0 h0) (QE : Exa Z h0 o0 "java/lang/String") (QC : Fld Z h0 o0 "java/lang/String" "coder" "B" (.int (0 : Int32))) (QV : Fld Z h0 o0 "java/lang/String" "value" "[B" (.ref sb)) (QA : own_Av Z h0 sb .byte kk f) (Pk : kk < 100000) :
    MetFree l (⟨"java/lang/String", "length", "()I"⟩ : MethodName) (head1 (Jvm.Cond.code (⟨"java/lang/String", "length", "()I"⟩ : MethodName) jdk_42_method_54_code 1 (some .int) :: ws) ({ frames := 1, cells := 0, slots := 0, locals := 13 } : Room)) (fun a U => a = #[(.ref o0)] ∧ Z.Warmed39 U.vm ∧ U.heap = h0) (fun _ _ _ _ _ => True) (fun _ U o U' => ∃ v L, o = .returned v ∧ own_Q7 Z o0 sb kk f h0 n0 v U'.heap L ∧ FrameEnd U o U' L ({ frames := 1, cells := 0, slots := 0, locals := 13 } : Room).cells ({ frames := 1, cells := 0, slots := 0, locals := 13 } : Room).slots) := by
  refine own_metfree (Q := own_Q7 Z o0 sb kk f h0 n0) (plainFor_of_name own_pn7) ?_
  intro p e s m below meth c s₁ X0 hx hby hml hret hown hnm hZ e0 G go fin
  have N0 := Fr.nil n0
  refine go _ (s₁.setTop (mkF m 0 #[.val (.ref o0)] [])) (fun t k => castTop (own_ef7 m o0) k) ?_
  have hk32 := own_n32 (n := kk) (by omega)
  refine go _ (s₁.setTop (mkF m 1 #[.val (.ref o0)] [(.ref o0)])) (fun t k => XS.aloadN X0.here hx rfl (hb hby d7_0) rfl rfl k) ?_
  obtain ⟨T1, X1, e1, st1⟩ := getF X0 hx hZ hown (host := "") (Or.inl (hw _ (List.mem_of_getElem? (i := 47) rfl))) Via.refl e0 QV (g := (mkF m 1 #[.val (.ref o0)] [(.ref o0)])) rfl rfl (hb hby d7_1)
  refine go _ (T1.setTop (mkF m 4 #[.val (.ref o0)] [(.ref sb)])) st1 ?_
  refine go _ (T1.setTop (mkF m 5 #[.val (.ref o0)] [(.int (Int32.ofNat kk))])) (fun t k => own_len X1 hx hZ e1 QA hk32 (g := (mkF m 4 #[.val (.ref o0)] [(.ref sb)])) rfl rfl (hb hby d7_4) _ k) ?_
  refine go _ (T1.setTop (mkF m 6 #[.val (.ref o0)] [(.ref o0), (.int (Int32.ofNat kk))])) (fun t k => XS.aloadN X1.here hx rfl (hb hby d7_5) rfl rfl k) ?_
  obtain ⟨cq2, kq2, q2a, q2b, q2c⟩ := isOf hZ e1 QE
  obtain ⟨_, _, ⟨T2, L2, k2, n2⟩, -, X2, ⟨Lc2, hQ2, l2, y2, z2⟩, st2⟩ := X1.virtualBack hx (y := (⟨"java/lang/String", "coder", "()B"⟩ : MethodName)) (z := (⟨"java/lang/String", "coder", "()B"⟩ : MethodName)) hown (mvT hZ (hw _ (List.mem_of_getElem? (i := 48) rfl))) (mvT hZ (hw _ (List.mem_of_getElem? (i := 49) rfl))) (notFace_of_selects (args := #[]) (mvT hZ (hw _ (List.mem_of_getElem? (i := 51) rfl)))) (mvT hZ (hw _ (List.mem_of_getElem? (i := 51) rfl))) (mvT hZ (hw _ (List.mem_of_getElem? (i := 50) rfl))) (by decide) (backOf (W := 1) (rm8 l Z a0 hw [] o0 h0 n0 Z0 PS QC) hZ (hw _ (List.mem_of_getElem? (i := 52) rfl)) (hw _ (List.mem_of_getElem? (i := 20) rfl)) (by decide) (by decide)) q2a q2c (g := (mkF m 6 #[.val (.ref o0)] [(.ref o0), (.int (Int32.ofNat kk))])) rfl (by rw [hml]; rfl) (Steps.refl _) (argsL := []) (rest := [(.int (Int32.ofNat kk))]) (lenOf own_pd_0 rfl) rfl (by show 2 * 0 + _ ≤ _; exact Nat.le_of_eq rfl) (hb hby d7_6) (fun _ _ => ⟨rfl, e1, (by decide : 0 + 0 ≤ _), (by decide : 0 + 0 ≤ _)⟩)
  dsimp only [Pt.U, Pt.locs, Pt.cells, Pt.slots] at X2 l2 y2 z2 st2 hQ2
  subst l2 y2 z2
  obtain ⟨rfl, Nq2, eq2⟩ := hQ2
  have N2 := Fr.app N0 Nq2
  refine go _ (T2.setTop (mkF m 9 #[.val (.ref o0)] [(.int (0 : Int32)), (.int (Int32.ofNat kk))])) (fun t k => st2.trans k) ?_
  refine go _ (T2.setTop (mkF m 10 #[.val (.ref o0)] [(.int ((Int32.ofNat kk) >>> ((0 : Int32) &&& 31)))])) (fun t k => XS.ishr X2.here hx rfl (hb hby d7_9) rfl k) ?_
  rw [own_sh0r]
  refine fin (some (.int (Int32.ofNat kk))) (mkF m 10 #[.val (.ref o0)] [(.int (Int32.ofNat kk))]) X2 (fun h => by cases h) (fun fs hr => retOut X2 hx (t := .int) hret rfl (Or.inl ⟨rfl, by simp, _, rfl⟩) (hb hby d7_10) hr) ?_ (by decide) (by decide)
  try rw [eq2]
  exact ⟨rfl, N2, rfl⟩
theorem own_ef24 (m : MethodId) (p0 : Int32) (p1 : Int32) : entryFrame m #[(.int p0), (.int p1)] 2 = mkF m 0 #[.val (.int p0), .val (.int p1)] [] := by first | (simp [entryFrame, mkF, argsToLocals, Value.category]; done) | rfl
theorem d24_0 : decode jdk_29_method_69_code 0 = .ok (.iload_n 0, 1) := by decide +kernel
theorem d24_1 : decode jdk_29_method_69_code 1 = .ok (.iload_n 1, 1) := by decide +kernel
theorem d24_2 : decode jdk_29_method_69_code 2 = .ok (.if_icmp .gt 7, 3) := by decide +kernel
theorem d24_9 : decode jdk_29_method_69_code 9 = .ok (.iload_n 1, 1) := by decide +kernel
theorem d24_10 : decode jdk_29_method_69_code 10 = .ok (.ireturn, 1) := by decide +kernel
theorem d24_5 : decode jdk_29_method_69_code 5 = .ok (.iload_n 0, 1) := by decide +kernel
theorem d24_6 : decode jdk_29_method_69_code 6 = .ok (.goto 4, 3) := by decide +kernel
def own_Q24 (Z : State) (p0 : Int32) (p1 : Int32) (h0 : Heap) (n0 : Nat) (v : Option Value) (h : Heap) (L : List Loc) : Prop := v = some (.int (own_min p0 p1)) ∧ Fr n0 L ∧ h = h0
set_option maxRecDepth 65536 in
set_option maxHeartbeats 40000000 in
theorem rm24 (l : Launch) (Z : State) (a0 : Array Value) (hw : ∀ d ∈ tables_1, d.before a0 Z = true) (ws : List Jvm.Cond) (p0 : Int32) (p1 : Int32) (h0 : Heap) (n0 : Nat) (Z0 : n0 ≤ h0.size) :
    MetFree l (⟨"java/lang/Math", "min", "(II)I"⟩ : MethodName) (head1 (Jvm.Cond.code (⟨"java/lang/Math", "min", "(II)I"⟩ : MethodName) jdk_29_method_69_code 2 (some .int) :: ws) ({ frames := 0, cells := 0, slots := 0, locals := 0 } : Room)) (fun a U => a = #[(.int p0), (.int p1)] ∧ Z.Warmed39 U.vm ∧ U.heap = h0) (fun _ _ _ _ _ => True) (fun _ U o U' => ∃ v L, o = .returned v ∧ own_Q24 Z p0 p1 h0 n0 v U'.heap L ∧ FrameEnd U o U' L ({ frames := 0, cells := 0, slots := 0, locals := 0 } : Room).cells ({ frames := 0, cells := 0, slots := 0, locals := 0 } : Room).slots) := by
  refine own_metfree (Q := own_Q24 Z p0 p1 h0 n0) (Jvm.Free.JP.mathPlain rfl (by decide +kernel)) ?_
  intro p e s m below meth c s₁ X0 hx hby hml hret hown hnm hZ e0 G go fin
  have N0 := Fr.nil n0
  refine go _ (s₁.setTop (mkF m 0 #[.val (.int p0), .val (.int p1)] [])) (fun t k => castTop (own_ef24 m p0 p1) k) ?_
  refine go _ (s₁.setTop (mkF m 1 #[.val (.int p0), .val (.int p1)] [(.int p0)])) (fun t k => XS.iloadN X0.here hx rfl (hb hby d24_0) rfl k) ?_
  refine go _ (s₁.setTop (mkF m 2 #[.val (.int p0), .val (.int p1)] [(.int p1), (.int p0)])) (fun t k => XS.iloadN X0.here hx rfl (hb hby d24_1) rfl k) ?_
  rcases Decidable.em (p1 < p0) with hc2 | hc2
  · refine go _ (s₁.setTop (mkF m 9 #[.val (.int p0), .val (.int p1)] [])) (fun t k => XS.icmpYes X0.here hx rfl (pc0 := 2) (pc' := 9) rfl (hb hby d24_2) rfl (tlt hc2).2.2.1 (by decide) (by decide) k) ?_
    refine go _ (s₁.setTop (mkF m 10 #[.val (.int p0), .val (.int p1)] [(.int p1)])) (fun t k => XS.iloadN X0.here hx rfl (hb hby d24_9) rfl k) ?_
    refine fin (some (.int p1)) (mkF m 10 #[.val (.int p0), .val (.int p1)] [(.int p1)]) X0 (fun h => by cases h) (fun fs hr => retOut X0 hx (t := .int) hret rfl (Or.inl ⟨rfl, by simp, _, rfl⟩) (hb hby d24_10) hr) ?_ (by decide) (by decide)
    try rw [e0]
    exact ⟨by simp [own_min, hc2], N0, rfl⟩
  · refine go _ (s₁.setTop (mkF m 5 #[.val (.int p0), .val (.int p1)] [])) (fun t k => XS.icmpNo X0.here hx rfl (hb hby d24_2) rfl (flt hc2).2.2.1 k) ?_
    refine go _ (s₁.setTop (mkF m 6 #[.val (.int p0), .val (.int p1)] [(.int p0)])) (fun t k => XS.iloadN X0.here hx rfl (hb hby d24_5) rfl k) ?_
    refine go _ (s₁.setTop (mkF m 10 #[.val (.int p0), .val (.int p1)] [(.int p0)])) (fun t k => XS.goto X0.here hx rfl (pc0 := 6) (pc' := 10) rfl (hb hby d24_6) (by decide) (by decide) k) ?_
    refine fin (some (.int p0)) (mkF m 10 #[.val (.int p0), .val (.int p1)] [(.int p0)]) X0 (fun h => by cases h) (fun fs hr => retOut X0 hx (t := .int) hret rfl (Or.inl ⟨rfl, by simp, _, rfl⟩) (hb hby d24_10) hr) ?_ (by decide) (by decide)
    try rw [e0]
    exact ⟨by simp [own_min, hc2], N0, rfl⟩
theorem own_ef35 (m : MethodId) (p0 : Int32) (p1 : Int32) : entryFrame m #[(.int p0), (.int p1)] 2 = mkF m 0 #[.val (.int p0), .val (.int p1)] [] := by first | (simp [entryFrame, mkF, argsToLocals, Value.category]; done) | rfl
theorem d35_0 : decode jdk_29_method_65_code 0 = .ok (.iload_n 0, 1) := by decide +kernel
theorem d35_1 : decode jdk_29_method_65_code 1 = .ok (.iload_n 1, 1) := by decide +kernel
theorem d35_2 : decode jdk_29_method_65_code 2 = .ok (.if_icmp .lt 7, 3) := by decide +kernel
theorem d35_9 : decode jdk_29_method_65_code 9 = .ok (.iload_n 1, 1) := by decide +kernel
theorem d35_10 : decode jdk_29_method_65_code 10 = .ok (.ireturn, 1) := by decide +kernel
theorem d35_5 : decode jdk_29_method_65_code 5 = .ok (.iload_n 0, 1) := by decide +kernel
theorem d35_6 : decode jdk_29_method_65_code 6 = .ok (.goto 4, 3) := by decide +kernel
def own_Q35 (Z : State) (p0 : Int32) (p1 : Int32) (h0 : Heap) (n0 : Nat) (v : Option Value) (h : Heap) (L : List Loc) : Prop := v = some (.int (own_max p0 p1)) ∧ Fr n0 L ∧ h = h0
set_option maxRecDepth 65536 in
set_option maxHeartbeats 40000000 in
theorem rm35 (l : Launch) (Z : State) (a0 : Array Value) (hw : ∀ d ∈ tables_1, d.before a0 Z = true) (ws : List Jvm.Cond) (p0 : Int32) (p1 : Int32) (h0 : Heap) (n0 : Nat) (Z0 : n0 ≤ h0.size) :
    MetFree l (⟨"java/lang/Math", "max", "(II)I"⟩ : MethodName) (head1 (Jvm.Cond.code (⟨"java/lang/Math", "max", "(II)I"⟩ : MethodName) jdk_29_method_65_code 2 (some .int) :: ws) ({ frames := 0, cells := 0, slots := 0, locals := 0 } : Room)) (fun a U => a = #[(.int p0), (.int p1)] ∧ Z.Warmed39 U.vm ∧ U.heap = h0) (fun _ _ _ _ _ => True) (fun _ U o U' => ∃ v L, o = .returned v ∧ own_Q35 Z p0 p1 h0 n0 v U'.heap L ∧ FrameEnd U o U' L ({ frames := 0, cells := 0, slots := 0, locals := 0 } : Room).cells ({ frames := 0, cells := 0, slots := 0, locals := 0 } : Room).slots) := by
  refine own_metfree (Q := own_Q35 Z p0 p1 h0 n0) (Jvm.Free.JP.mathPlain rfl (by decide +kernel)) ?_
  intro p e s m below meth c s₁ X0 hx hby hml hret hown hnm hZ e0 G go fin
  have N0 := Fr.nil n0
  refine go _ (s₁.setTop (mkF m 0 #[.val (.int p0), .val (.int p1)] [])) (fun t k => castTop (own_ef35 m p0 p1) k) ?_
  refine go _ (s₁.setTop (mkF m 1 #[.val (.int p0), .val (.int p1)] [(.int p0)])) (fun t k => XS.iloadN X0.here hx rfl (hb hby d35_0) rfl k) ?_
  refine go _ (s₁.setTop (mkF m 2 #[.val (.int p0), .val (.int p1)] [(.int p1), (.int p0)])) (fun t k => XS.iloadN X0.here hx rfl (hb hby d35_1) rfl k) ?_
  rcases Decidable.em (p0 < p1) with hc2 | hc2
  · refine go _ (s₁.setTop (mkF m 9 #[.val (.int p0), .val (.int p1)] [])) (fun t k => XS.icmpYes X0.here hx rfl (pc0 := 2) (pc' := 9) rfl (hb hby d35_2) rfl (tlt hc2).1 (by decide) (by decide) k) ?_
    refine go _ (s₁.setTop (mkF m 10 #[.val (.int p0), .val (.int p1)] [(.int p1)])) (fun t k => XS.iloadN X0.here hx rfl (hb hby d35_9) rfl k) ?_
    refine fin (some (.int p1)) (mkF m 10 #[.val (.int p0), .val (.int p1)] [(.int p1)]) X0 (fun h => by cases h) (fun fs hr => retOut X0 hx (t := .int) hret rfl (Or.inl ⟨rfl, by simp, _, rfl⟩) (hb hby d35_10) hr) ?_ (by decide) (by decide)
    try rw [e0]
    exact ⟨by simp [own_max, hc2], N0, rfl⟩
  · refine go _ (s₁.setTop (mkF m 5 #[.val (.int p0), .val (.int p1)] [])) (fun t k => XS.icmpNo X0.here hx rfl (hb hby d35_2) rfl (flt hc2).1 k) ?_
    refine go _ (s₁.setTop (mkF m 6 #[.val (.int p0), .val (.int p1)] [(.int p0)])) (fun t k => XS.iloadN X0.here hx rfl (hb hby d35_5) rfl k) ?_
    refine go _ (s₁.setTop (mkF m 10 #[.val (.int p0), .val (.int p1)] [(.int p0)])) (fun t k => XS.goto X0.here hx rfl (pc0 := 6) (pc' := 10) rfl (hb hby d35_6) (by decide) (by decide) k) ?_
    refine fin (some (.int p0)) (mkF m 10 #[.val (.int p0), .val (.int p1)] [(.int p0)]) X0 (fun h => by cases h) (fun fs hr => retOut X0 hx (t := .int) hret rfl (Or.inl ⟨rfl, by simp, _, rfl⟩) (hb hby d35_10) hr) ?_ (by decide) (by decide)
    try rw [e0]
    exact ⟨by simp [own_max, hc2], N0, rfl⟩
theorem own_ef36 (m : MethodId) (o0 : Addr) (p1 : Int32) : entryFrame m #[(.ref o0), (.int p1)] 3 = mkF m 0 #[.val (.ref o0), .val (.int p1), .unset] [] := by first | (simp [entryFrame, mkF, argsToLocals, Value.category]; done) | rfl
theorem own_pn36 : plainName "java/util/Arrays" = true := by first | (simp [plainName, overriddenIn]; done) | decide +kernel
theorem d36_0 : decode jdk_65_method_121_code 0 = .ok (.iload_n 1, 1) := by decide +kernel
theorem d36_1 : decode jdk_65_method_121_code 1 = .ok (.aload_n 0, 1) := by decide +kernel
theorem d36_2 : decode jdk_65_method_121_code 2 = .ok (.arraylength, 1) := by decide +kernel
theorem d36_3 : decode jdk_65_method_121_code 3 = .ok (.if_icmp .ne 11, 3) := by decide +kernel
theorem d36_6 : decode jdk_65_method_121_code 6 = .ok (.aload_n 0, 1) := by decide +kernel
theorem d36_7 : decode jdk_65_method_121_code 7 = .ok (.invokevirtual 310, 3) := by decide +kernel
theorem d36_10 : decode jdk_65_method_121_code 10 = .ok (.checkcast 311, 3) := by decide +kernel
theorem d36_13 : decode jdk_65_method_121_code 13 = .ok (.areturn, 1) := by decide +kernel
theorem d36_14 : decode jdk_65_method_121_code 14 = .ok (.iload_n 1, 1) := by decide +kernel
theorem d36_15 : decode jdk_65_method_121_code 15 = .ok (.newarray .byte, 2) := by decide +kernel
theorem d36_17 : decode jdk_65_method_121_code 17 = .ok (.astore_n 2, 1) := by decide +kernel
theorem d36_18 : decode jdk_65_method_121_code 18 = .ok (.aload_n 0, 1) := by decide +kernel
theorem d36_19 : decode jdk_65_method_121_code 19 = .ok (.iconst 0, 1) := by decide +kernel
theorem d36_20 : decode jdk_65_method_121_code 20 = .ok (.aload_n 2, 1) := by decide +kernel
theorem d36_21 : decode jdk_65_method_121_code 21 = .ok (.iconst 0, 1) := by decide +kernel
theorem d36_22 : decode jdk_65_method_121_code 22 = .ok (.aload_n 0, 1) := by decide +kernel
theorem d36_23 : decode jdk_65_method_121_code 23 = .ok (.arraylength, 1) := by decide +kernel
theorem d36_24 : decode jdk_65_method_121_code 24 = .ok (.iload_n 1, 1) := by decide +kernel
theorem d36_25 : decode jdk_65_method_121_code 25 = .ok (.invokestatic 304, 3) := by decide +kernel
theorem own_pd_1 : parseMethodDescriptor "(II)I" = some ⟨[.int, .int], some .int⟩ := by decide +kernel
theorem d36_28 : decode jdk_65_method_121_code 28 = .ok (.invokestatic 150, 3) := by decide +kernel
theorem d36_31 : decode jdk_65_method_121_code 31 = .ok (.aload_n 2, 1) := by decide +kernel
theorem d36_32 : decode jdk_65_method_121_code 32 = .ok (.areturn, 1) := by decide +kernel
def own_Q36 (Z : State) (o0 : Addr) (p1 : Int32) (n : Nat) (mm : Nat) (f : Nat → Value) (h0 : Heap) (n0 : Nat) (v : Option Value) (h : Heap) (L : List Loc) : Prop := ∃ r : Addr, v = some (.ref r) ∧ Fr n0 L ∧ h0.size ≤ r ∧ Keep h0 h [] ∧ Exa Z h r "[B" ∧ ∃ f' : Nat → Value, own_Av Z h r .byte mm f' ∧ ∀ i, i < n → i < mm → f' i = f i
set_option maxRecDepth 65536 in
set_option maxHeartbeats 40000000 in
theorem rm36 (l : Launch) (Z : State) (a0 : Array Value) (hw : ∀ d ∈ tables_1, d.before a0 Z = true) (ws : List Jvm.Cond) (o0 : Addr) (p1 : Int32) (n : Nat) (mm : Nat) (f : Nat → Value) (h0 : Heap) (n0 : Nat) (Z0 : n0 ≤ h0.size) (PA : own_Av Z h0 o0 .byte n f) (PX : Exa Z h0 o0 "[B") (Pm : p1.toInt = (mm : Int)) (PM : mm ≤ 200) (Pn : n ≤ 200) :
    MetFree l (⟨"java/util/Arrays", "copyOf", "([BI)[B"⟩ : MethodName) (head1 (Jvm.Cond.code (⟨"java/util/Arrays", "copyOf", "([BI)[B"⟩ : MethodName) jdk_65_method_121_code 3 (some (.array .byte)) :: ws) ({ frames := 1, cells := 1, slots := 200, locals := 18 } : Room)) (fun a U => a = #[(.ref o0), (.int p1)] ∧ Z.Warmed39 U.vm ∧ U.heap = h0) (fun _ _ _ _ _ => True) (fun _ U o U' => ∃ v L, o = .returned v ∧ own_Q36 Z o0 p1 n mm f h0 n0 v U'.heap L ∧ FrameEnd U o U' L ({ frames := 1, cells := 1, slots := 200, locals := 18 } : Room).cells ({ frames := 1, cells := 1, slots := 200, locals := 18 } : Room).slots) := by
  refine own_metfree (Q := own_Q36 Z o0 p1 n mm f h0 n0) (plainFor_of_name own_pn36) ?_
  intro p e s m below meth c s₁ X0 hx hby hml hret hown hnm hZ e0 G go fin
  have N0 := Fr.nil n0
  refine go _ (s₁.setTop (mkF m 0 #[.val (.ref o0), .val (.int p1), .unset] [])) (fun t k => castTop (own_ef36 m o0 p1) k) ?_
  have hn32 := own_n32 (n := n) (by omega)
  refine go _ (s₁.setTop (mkF m 1 #[.val (.ref o0), .val (.int p1), .unset] [(.int p1)])) (fun t k => XS.iloadN X0.here hx rfl (hb hby d36_0) rfl k) ?_
  refine go _ (s₁.setTop (mkF m 2 #[.val (.ref o0), .val (.int p1), .unset] [(.ref o0), (.int p1)])) (fun t k => XS.aloadN X0.here hx rfl (hb hby d36_1) rfl rfl k) ?_
  refine go _ (s₁.setTop (mkF m 3 #[.val (.ref o0), .val (.int p1), .unset] [(.int (Int32.ofNat n)), (.int p1)])) (fun t k => own_len X0 hx hZ e0 PA hn32 (g := (mkF m 2 #[.val (.ref o0), .val (.int p1), .unset] [(.ref o0), (.int p1)])) rfl rfl (hb hby d36_2) _ k) ?_
  rcases Decidable.em (p1 = (Int32.ofNat n)) with hc3 | hc3
  · refine go _ (s₁.setTop (mkF m 6 #[.val (.ref o0), .val (.int p1), .unset] [])) (fun t k => XS.icmpNo X0.here hx rfl (hb hby d36_3) rfl (teq hc3).2 k) ?_
    refine go _ (s₁.setTop (mkF m 7 #[.val (.ref o0), .val (.int p1), .unset] [(.ref o0)])) (fun t k => XS.aloadN X0.here hx rfl (hb hby d36_6) rfl rfl k) ?_
    have hnm : mm = n := by have := (own_eqn Pm hn32).mp hc3; omega
    obtain ⟨T1, h1, X1, e1, E1, Av1, Ax1, st1⟩ := own_clone X0 hx hZ hown (hw _ (List.mem_of_getElem? (i := 189) rfl)) (hw _ (List.mem_of_getElem? (i := 190) rfl)) (hw _ (List.mem_of_getElem? (i := 194) rfl)) (hw _ (List.mem_of_getElem? (i := 192) rfl)) (hw _ (List.mem_of_getElem? (i := 193) rfl)) (hw _ (List.mem_of_getElem? (i := 195) rfl)) e0 PA PX (g := (mkF m 7 #[.val (.ref o0), .val (.int p1), .unset] [(.ref o0)])) rfl (by rw [hml]; rfl) rfl (hb hby d36_7) (by decide) (W := 0) (cap := 200) (by show 2 * 0 + _ ≤ _; exact Nat.le_of_eq rfl) (by decide) (by omega) (by decide) (by decide)
    obtain ⟨b1, gb1⟩ : ∃ z, z = h0.size := ⟨_, rfl⟩
    rw [← gb1] at Av1 Ax1 st1
    have ne2_o0_b1 : o0 ≠ b1 := Nat.ne_of_lt (Nat.lt_of_lt_of_le PX.lt (Nat.le_of_eq gb1.symm))
    have g_b1 : n0 ≤ b1 := Nat.le_trans Z0 (Nat.le_of_eq gb1.symm)
    have sz_b1 : h0.size ≤ b1 := (Nat.le_of_eq gb1.symm)
    refine go _ (T1.setTop (mkF m 10 #[.val (.ref o0), .val (.int p1), .unset] [(.ref b1)])) st1 ?_
    obtain ⟨T3, X3, e3, st3⟩ := castY X1 hx hZ hown (hw _ (List.mem_of_getElem? (i := 196) rfl)) e1 (Ins.self Ax1) (g := (mkF m 10 #[.val (.ref o0), .val (.int p1), .unset] [(.ref b1)])) rfl rfl (hb hby d36_10)
    refine go _ (T3.setTop (mkF m 13 #[.val (.ref o0), .val (.int p1), .unset] [(.ref b1)])) st3 ?_
    refine fin (some (.ref b1)) (mkF m 13 #[.val (.ref o0), .val (.int p1), .unset] [(.ref b1)]) X3 (fun h => by cases h) (fun fs hr => retOut X3 hx (t := (.array .byte)) hret rfl (Or.inr (Or.inr (Or.inr (Or.inr ⟨rfl, rfl, rfl⟩)))) (hb hby d36_13) hr) ?_ (by decide) (by decide)
    try rw [e3]
    exact ⟨b1, rfl, N0, sz_b1, ((Keep.refl h0 []).ext E1), Ax1, f, by rw [hnm]; exact Av1, fun i _ _ => rfl⟩
  · refine go _ (s₁.setTop (mkF m 14 #[.val (.ref o0), .val (.int p1), .unset] [])) (fun t k => XS.icmpYes X0.here hx rfl (pc0 := 3) (pc' := 14) rfl (hb hby d36_3) rfl (feq hc3).2 (by decide) (by decide) k) ?_
    refine go _ (s₁.setTop (mkF m 15 #[.val (.ref o0), .val (.int p1), .unset] [(.int p1)])) (fun t k => XS.iloadN X0.here hx rfl (hb hby d36_14) rfl k) ?_
    obtain ⟨T4, h4, kk4, X4, e4, E4, Ar4, Ax4, st4⟩ := newPE X0 hx hZ (hw _ (List.mem_of_getElem? (i := 21) rfl)) e0 (g := (mkF m 15 #[.val (.ref o0), .val (.int p1), .unset] [(.int p1)])) rfl (hb hby d36_15) rfl (own_nn Pm) (cap := 200) (by rw [own_nat Pm]; exact PM) (by decide) (by decide) (by decide) (ad := "[B") (by first | rfl | decide)
    obtain ⟨b4, gb4⟩ : ∃ z, z = h0.size := ⟨_, rfl⟩
    rw [← gb4] at Ar4 Ax4 st4
    have ne5_o0_b4 : o0 ≠ b4 := Nat.ne_of_lt (Nat.lt_of_lt_of_le PX.lt (Nat.le_of_eq gb4.symm))
    have g_b4 : n0 ≤ b4 := Nat.le_trans Z0 (Nat.le_of_eq gb4.symm)
    have sz_b4 : h0.size ≤ b4 := (Nat.le_of_eq gb4.symm)
    have Av4 : own_Av Z h4 b4 .byte mm (fun _ => (.int 0)) := own_Av.new Ar4 (own_nn Pm) (own_nat Pm)
    refine go _ (T4.setTop (mkF m 17 #[.val (.ref o0), .val (.int p1), .unset] [(.ref b4)])) st4 ?_
    refine go _ (T4.setTop (mkF m 18 #[.val (.ref o0), .val (.int p1), .val (.ref b4)] [])) (fun t k => XS.astoreN X4.here hx rfl (hb hby d36_17) rfl rfl (l' := #[.val (.ref o0), .val (.int p1), .val (.ref b4)]) rfl k) ?_
    refine go _ (T4.setTop (mkF m 19 #[.val (.ref o0), .val (.int p1), .val (.ref b4)] [(.ref o0)])) (fun t k => XS.aloadN X4.here hx rfl (hb hby d36_18) rfl rfl k) ?_
    refine go _ (T4.setTop (mkF m 20 #[.val (.ref o0), .val (.int p1), .val (.ref b4)] [(.int (0 : Int32)), (.ref o0)])) (fun t k => XS.iconst X4.here hx rfl (hb hby d36_19) k) ?_
    refine go _ (T4.setTop (mkF m 21 #[.val (.ref o0), .val (.int p1), .val (.ref b4)] [(.ref b4), (.int (0 : Int32)), (.ref o0)])) (fun t k => XS.aloadN X4.here hx rfl (hb hby d36_20) rfl rfl k) ?_
    refine go _ (T4.setTop (mkF m 22 #[.val (.ref o0), .val (.int p1), .val (.ref b4)] [(.int (0 : Int32)), (.ref b4), (.int (0 : Int32)), (.ref o0)])) (fun t k => XS.iconst X4.here hx rfl (hb hby d36_21) k) ?_
    refine go _ (T4.setTop (mkF m 23 #[.val (.ref o0), .val (.int p1), .val (.ref b4)] [(.ref o0), (.int (0 : Int32)), (.ref b4), (.int (0 : Int32)), (.ref o0)])) (fun t k => XS.aloadN X4.here hx rfl (hb hby d36_22) rfl rfl k) ?_
    have A6_o0 : own_Av Z h4 o0 .byte n f := (PA.ext E4)
    refine go _ (T4.setTop (mkF m 24 #[.val (.ref o0), .val (.int p1), .val (.ref b4)] [(.int (Int32.ofNat n)), (.int (0 : Int32)), (.ref b4), (.int (0 : Int32)), (.ref o0)])) (fun t k => own_len X4 hx hZ e4 A6_o0 hn32 (g := (mkF m 23 #[.val (.ref o0), .val (.int p1), .val (.ref b4)] [(.ref o0), (.int (0 : Int32)), (.ref b4), (.int (0 : Int32)), (.ref o0)])) rfl rfl (hb hby d36_23) _ k) ?_
    refine go _ (T4.setTop (mkF m 25 #[.val (.ref o0), .val (.int p1), .val (.ref b4)] [(.int p1), (.int (Int32.ofNat n)), (.int (0 : Int32)), (.ref b4), (.int (0 : Int32)), (.ref o0)])) (fun t k => XS.iloadN X4.here hx rfl (hb hby d36_24) rfl k) ?_
    have Z7z : n0 ≤ h4.size := (Nat.le_trans Z0 E4.1)
    obtain ⟨_, _, ⟨T8, L8, k8, n8⟩, -, X8, ⟨Lc8, hQ8, l8, y8, z8⟩, st8⟩ := Jvm.LawKit.callS X4 hx (y := (⟨"java/lang/Math", "min", "(II)I"⟩ : MethodName)) hown (mvT hZ (hw _ (List.mem_of_getElem? (i := 131) rfl))) (mvT hZ (hw _ (List.mem_of_getElem? (i := 132) rfl))) (mvT hZ (hw _ (List.mem_of_getElem? (i := 133) rfl))) (mvT hZ (hw _ (List.mem_of_getElem? (i := 134) rfl))) (by decide) (backOf (W := 4) (rm24 l Z a0 hw [] (Int32.ofNat n) p1 h4 n0 Z7z ) hZ (hw _ (List.mem_of_getElem? (i := 134) rfl)) (hw _ (List.mem_of_getElem? (i := 133) rfl)) (by decide) (by decide)) (g := (mkF m 25 #[.val (.ref o0), .val (.int p1), .val (.ref b4)] [(.int p1), (.int (Int32.ofNat n)), (.int (0 : Int32)), (.ref b4), (.int (0 : Int32)), (.ref o0)])) rfl (by rw [hml]; rfl) (argsL := [(.int (Int32.ofNat n)), (.int p1)]) (rest := [(.int (0 : Int32)), (.ref b4), (.int (0 : Int32)), (.ref o0)]) (lenOf own_pd_1 rfl) rfl (by show 2 * 0 + _ ≤ _; exact Nat.le_of_eq rfl) (hb hby d36_25) (fun _ _ => ⟨rfl, e4, (by decide : 1 + 0 ≤ _), (by decide : 200 + 0 ≤ _)⟩)
    dsimp only [Pt.U, Pt.locs, Pt.cells, Pt.slots] at X8 l8 y8 z8 st8 hQ8
    subst l8 y8 z8
    obtain ⟨rfl, Nq8, eq8⟩ := hQ8
    have N8 := Fr.app N0 Nq8
    refine go _ (T8.setTop (mkF m 28 #[.val (.ref o0), .val (.int p1), .val (.ref b4)] [(.int (own_min (Int32.ofNat n) p1)), (.int (0 : Int32)), (.ref b4), (.int (0 : Int32)), (.ref o0)])) st8 ?_
    obtain ⟨T9, h9, L9, X9, e9, N9, K9, Av9, st9⟩ := own_cpy X8 hx hZ hown (hw _ (List.mem_of_getElem? (i := 135) rfl)) (hw _ (List.mem_of_getElem? (i := 81) rfl)) (hw _ (List.mem_of_getElem? (i := 79) rfl)) (hw _ (List.mem_of_getElem? (i := 80) rfl)) eq8 A6_o0 Av4 rfl (i := 0) (j := 0) (k := (min n mm)) (by decide) (by decide) (own_min_val hn32 Pm) (by omega) (by omega) N8 g_b4 (fr := (mkF m 28 #[.val (.ref o0), .val (.int p1), .val (.ref b4)] [(.int (own_min (Int32.ofNat n) p1)), (.int (0 : Int32)), (.ref b4), (.int (0 : Int32)), (.ref o0)])) rfl (by rw [hml]; rfl) rfl (hb hby d36_28) (by decide) (W := 0) (by show 2 * 0 + _ ≤ _; exact Nat.le_of_eq rfl) (by decide)
    refine go _ (T9.setTop (mkF m 31 #[.val (.ref o0), .val (.int p1), .val (.ref b4)] [])) st9 ?_
    refine go _ (T9.setTop (mkF m 32 #[.val (.ref o0), .val (.int p1), .val (.ref b4)] [(.ref b4)])) (fun t k => XS.aloadN X9.here hx rfl (hb hby d36_31) rfl rfl k) ?_
    have E10_b4 : Exa Z h9 b4 "[B" := (Ax4.keep K9)
    refine fin (some (.ref b4)) (mkF m 32 #[.val (.ref o0), .val (.int p1), .val (.ref b4)] [(.ref b4)]) X9 (fun h => by cases h) (fun fs hr => retOut X9 hx (t := (.array .byte)) hret rfl (Or.inr (Or.inr (Or.inr (Or.inr ⟨rfl, rfl, rfl⟩)))) (hb hby d36_32) hr) ?_ (by decide) (by decide)
    try rw [e9]
    exact ⟨b4, rfl, N9, sz_b4, (((Keep.refl h0 []).ext E4).trans K9 (allS (Or.inr sz_b4) all0)), E10_b4, _, Av9, fun i hi1 hi2 => by show (if 0 ≤ i ∧ i < 0 + min n mm then f (0 + (i - 0)) else _) = f i; rw [if_pos (by omega), Nat.zero_add, Nat.sub_zero]⟩
theorem own_ef23 (m : MethodId) (p0 : Int32) (p1 : Int32) : entryFrame m #[(.int p0), (.int p1)] 2 = mkF m 0 #[.val (.int p0), .val (.int p1)] [] := by first | (simp [entryFrame, mkF, argsToLocals, Value.category]; done) | rfl
theorem own_pn23 : plainName "java/util/Arrays" = true := by first | (simp [plainName, overriddenIn]; done) | decide +kernel
theorem d23_0 : decode jdk_65_method_131_code 0 = .ok (.iload_n 1, 1) := by decide +kernel
theorem d23_1 : decode jdk_65_method_131_code 1 = .ok (.iload_n 0, 1) := by decide +kernel
theorem d23_2 : decode jdk_65_method_131_code 2 = .ok (.if_icmp .ge 35, 3) := by decide +kernel
theorem d23_37 : decode jdk_65_method_131_code 37 = .ok (.return_, 1) := by decide +kernel
def own_Q23 (Z : State) (p0 : Int32) (p1 : Int32) (h0 : Heap) (n0 : Nat) (v : Option Value) (h : Heap) (L : List Loc) : Prop := v = none ∧ Fr n0 L ∧ h = h0
set_option maxRecDepth 65536 in
set_option maxHeartbeats 40000000 in
theorem rm23 (l : Launch) (Z : State) (a0 : Array Value) (hw : ∀ d ∈ tables_1, d.before a0 Z = true) (ws : List Jvm.Cond) (p0 : Int32) (p1 : Int32) (h0 : Heap) (n0 : Nat) (Z0 : n0 ≤ h0.size) (Hc : ¬ (p1 < p0)) :
    MetFree l (⟨"java/util/Arrays", "checkLength", "(II)V"⟩ : MethodName) (head1 (Jvm.Cond.code (⟨"java/util/Arrays", "checkLength", "(II)V"⟩ : MethodName) jdk_65_method_131_code 2 none :: ws) ({ frames := 0, cells := 0, slots := 0, locals := 0 } : Room)) (fun a U => a = #[(.int p0), (.int p1)] ∧ Z.Warmed39 U.vm ∧ U.heap = h0) (fun _ _ _ _ _ => True) (fun _ U o U' => ∃ v L, o = .returned v ∧ own_Q23 Z p0 p1 h0 n0 v U'.heap L ∧ FrameEnd U o U' L ({ frames := 0, cells := 0, slots := 0, locals := 0 } : Room).cells ({ frames := 0, cells := 0, slots := 0, locals := 0 } : Room).slots) := by
  refine own_metfree (Q := own_Q23 Z p0 p1 h0 n0) (plainFor_of_name own_pn23) ?_
  intro p e s m below meth c s₁ X0 hx hby hml hret hown hnm hZ e0 G go fin
  have N0 := Fr.nil n0
  refine go _ (s₁.setTop (mkF m 0 #[.val (.int p0), .val (.int p1)] [])) (fun t k => castTop (own_ef23 m p0 p1) k) ?_
  refine go _ (s₁.setTop (mkF m 1 #[.val (.int p0), .val (.int p1)] [(.int p1)])) (fun t k => XS.iloadN X0.here hx rfl (hb hby d23_0) rfl k) ?_
  refine go _ (s₁.setTop (mkF m 2 #[.val (.int p0), .val (.int p1)] [(.int p0), (.int p1)])) (fun t k => XS.iloadN X0.here hx rfl (hb hby d23_1) rfl k) ?_
  have hc2 : ¬ (p1 < p0) := by exact Hc
  refine go _ (s₁.setTop (mkF m 37 #[.val (.int p0), .val (.int p1)] [])) (fun t k => XS.icmpYes X0.here hx rfl (pc0 := 2) (pc' := 37) rfl (hb hby d23_2) rfl (flt hc2).2.1 (by decide) (by decide) k) ?_
  refine fin (none) (mkF m 37 #[.val (.int p0), .val (.int p1)] []) X0 (fun _ => rfl) (fun fs hr => X0.returnOut hx hret (hb hby d23_37) hr) ?_ (by decide) (by decide)
  try rw [e0]
  exact ⟨rfl, N0, rfl⟩
theorem own_ef22 (m : MethodId) (o0 : Addr) (p1 : Int32) (p2 : Int32) : entryFrame m #[(.ref o0), (.int p1), (.int p2)] 5 = mkF m 0 #[.val (.ref o0), .val (.int p1), .val (.int p2), .unset, .unset] [] := by first | (simp [entryFrame, mkF, argsToLocals, Value.category]; done) | rfl
theorem own_pn22 : plainName "java/util/Arrays" = true := by first | (simp [plainName, overriddenIn]; done) | decide +kernel
theorem d22_0 : decode jdk_65_method_133_code 0 = .ok (.iload_n 1, 1) := by decide +kernel
theorem d22_1 : decode jdk_65_method_133_code 1 = .ok (.iload_n 2, 1) := by decide +kernel
theorem d22_2 : decode jdk_65_method_133_code 2 = .ok (.invokestatic 343, 3) := by decide +kernel
theorem own_pd_2 : parseMethodDescriptor "(II)V" = some ⟨[.int, .int], none⟩ := by decide +kernel
theorem d22_5 : decode jdk_65_method_133_code 5 = .ok (.iload_n 2, 1) := by decide +kernel
theorem d22_6 : decode jdk_65_method_133_code 6 = .ok (.iload_n 1, 1) := by decide +kernel
theorem d22_7 : decode jdk_65_method_133_code 7 = .ok (.isub, 1) := by decide +kernel
theorem d22_8 : decode jdk_65_method_133_code 8 = .ok (.istore_n 3, 1) := by decide +kernel
theorem d22_9 : decode jdk_65_method_133_code 9 = .ok (.iload_n 3, 1) := by decide +kernel
theorem d22_10 : decode jdk_65_method_133_code 10 = .ok (.newarray .byte, 2) := by decide +kernel
theorem d22_12 : decode jdk_65_method_133_code 12 = .ok (.astore 4, 2) := by decide +kernel
theorem d22_14 : decode jdk_65_method_133_code 14 = .ok (.aload_n 0, 1) := by decide +kernel
theorem d22_15 : decode jdk_65_method_133_code 15 = .ok (.iload_n 1, 1) := by decide +kernel
theorem d22_16 : decode jdk_65_method_133_code 16 = .ok (.aload 4, 2) := by decide +kernel
theorem d22_18 : decode jdk_65_method_133_code 18 = .ok (.iconst 0, 1) := by decide +kernel
theorem d22_19 : decode jdk_65_method_133_code 19 = .ok (.aload_n 0, 1) := by decide +kernel
theorem d22_20 : decode jdk_65_method_133_code 20 = .ok (.arraylength, 1) := by decide +kernel
theorem d22_21 : decode jdk_65_method_133_code 21 = .ok (.iload_n 1, 1) := by decide +kernel
theorem d22_22 : decode jdk_65_method_133_code 22 = .ok (.isub, 1) := by decide +kernel
theorem d22_23 : decode jdk_65_method_133_code 23 = .ok (.iload_n 3, 1) := by decide +kernel
theorem d22_24 : decode jdk_65_method_133_code 24 = .ok (.invokestatic 304, 3) := by decide +kernel
theorem d22_27 : decode jdk_65_method_133_code 27 = .ok (.invokestatic 150, 3) := by decide +kernel
theorem d22_30 : decode jdk_65_method_133_code 30 = .ok (.aload 4, 2) := by decide +kernel
theorem d22_32 : decode jdk_65_method_133_code 32 = .ok (.areturn, 1) := by decide +kernel
def own_Q22 (Z : State) (o0 : Addr) (p1 : Int32) (p2 : Int32) (n : Nat) (mm : Nat) (f : Nat → Value) (h0 : Heap) (n0 : Nat) (v : Option Value) (h : Heap) (L : List Loc) : Prop := ∃ r : Addr, v = some (.ref r) ∧ Fr n0 L ∧ h0.size ≤ r ∧ Keep h0 h [] ∧ Exa Z h r "[B" ∧ ∃ f' : Nat → Value, own_Av Z h r .byte mm f' ∧ ∀ i, i < mm → f' i = f i
set_option maxRecDepth 65536 in
set_option maxHeartbeats 40000000 in
theorem rm22 (l : Launch) (Z : State) (a0 : Array Value) (hw : ∀ d ∈ tables_1, d.before a0 Z = true) (ws : List Jvm.Cond) (o0 : Addr) (p1 : Int32) (p2 : Int32) (n : Nat) (mm : Nat) (f : Nat → Value) (h0 : Heap) (n0 : Nat) (Z0 : n0 ≤ h0.size) (PA : own_Av Z h0 o0 .byte n f) (PX : Exa Z h0 o0 "[B") (Pz : p1 = (0 : Int32)) (Pm : p2.toInt = (mm : Int)) (PM : mm ≤ n) (Pn : n ≤ 200) :
    MetFree l (⟨"java/util/Arrays", "copyOfRangeByte", "([BII)[B"⟩ : MethodName) (head1 (Jvm.Cond.code (⟨"java/util/Arrays", "copyOfRangeByte", "([BII)[B"⟩ : MethodName) jdk_65_method_133_code 5 (some (.array .byte)) :: ws) ({ frames := 1, cells := 1, slots := 200, locals := 18 } : Room)) (fun a U => a = #[(.ref o0), (.int p1), (.int p2)] ∧ Z.Warmed39 U.vm ∧ U.heap = h0) (fun _ _ _ _ _ => True) (fun _ U o U' => ∃ v L, o = .returned v ∧ own_Q22 Z o0 p1 p2 n mm f h0 n0 v U'.heap L ∧ FrameEnd U o U' L ({ frames := 1, cells := 1, slots := 200, locals := 18 } : Room).cells ({ frames := 1, cells := 1, slots := 200, locals := 18 } : Room).slots) := by
  refine own_metfree (Q := own_Q22 Z o0 p1 p2 n mm f h0 n0) (plainFor_of_name own_pn22) ?_
  intro p e s m below meth c s₁ X0 hx hby hml hret hown hnm hZ e0 G go fin
  have N0 := Fr.nil n0
  refine go _ (s₁.setTop (mkF m 0 #[.val (.ref o0), .val (.int p1), .val (.int p2), .unset, .unset] [])) (fun t k => castTop (own_ef22 m o0 p1 p2) k) ?_
  have hn32 := own_n32 (n := n) (by omega)
  have hnn : ¬ (p2 < (0 : Int32)) := own_nn Pm
  rw [Pz]
  refine go _ (s₁.setTop (mkF m 1 #[.val (.ref o0), .val (.int (0 : Int32)), .val (.int p2), .unset, .unset] [(.int (0 : Int32))])) (fun t k => XS.iloadN X0.here hx rfl (hb hby d22_0) rfl k) ?_
  refine go _ (s₁.setTop (mkF m 2 #[.val (.ref o0), .val (.int (0 : Int32)), .val (.int p2), .unset, .unset] [(.int p2), (.int (0 : Int32))])) (fun t k => XS.iloadN X0.here hx rfl (hb hby d22_1) rfl k) ?_
  obtain ⟨_, _, ⟨T1, L1, k1, n1⟩, -, X1, ⟨Lc1, hQ1, l1, y1, z1⟩, st1⟩ := Jvm.LawKit.callS X0 hx (y := (⟨"java/util/Arrays", "checkLength", "(II)V"⟩ : MethodName)) hown (mvT hZ (hw _ (List.mem_of_getElem? (i := 128) rfl))) (mvT hZ (hw _ (List.mem_of_getElem? (i := 129) rfl))) (mvT hZ (hw _ (List.mem_of_getElem? (i := 123) rfl))) (mvT hZ (hw _ (List.mem_of_getElem? (i := 130) rfl))) (by decide) (backOf (W := 0) (rm23 l Z a0 hw [] (0 : Int32) p2 h0 n0 Z0 hnn) hZ (hw _ (List.mem_of_getElem? (i := 130) rfl)) (hw _ (List.mem_of_getElem? (i := 123) rfl)) (by decide) (by decide)) (g := (mkF m 2 #[.val (.ref o0), .val (.int (0 : Int32)), .val (.int p2), .unset, .unset] [(.int p2), (.int (0 : Int32))])) rfl (by rw [hml]; rfl) (argsL := [(.int (0 : Int32)), (.int p2)]) (rest := []) (lenOf own_pd_2 rfl) rfl (by show 2 * 0 + _ ≤ _; exact Nat.le_of_eq rfl) (hb hby d22_2) (fun _ _ => ⟨rfl, e0, (by decide : 0 + 0 ≤ _), (by decide : 0 + 0 ≤ _)⟩)
  dsimp only [Pt.U, Pt.locs, Pt.cells, Pt.slots] at X1 l1 y1 z1 st1 hQ1
  subst l1 y1 z1
  obtain ⟨rfl, Nq1, eq1⟩ := hQ1
  have N1 := Fr.app N0 Nq1
  refine go _ (T1.setTop (mkF m 5 #[.val (.ref o0), .val (.int (0 : Int32)), .val (.int p2), .unset, .unset] [])) st1 ?_
  refine go _ (T1.setTop (mkF m 6 #[.val (.ref o0), .val (.int (0 : Int32)), .val (.int p2), .unset, .unset] [(.int p2)])) (fun t k => XS.iloadN X1.here hx rfl (hb hby d22_5) rfl k) ?_
  refine go _ (T1.setTop (mkF m 7 #[.val (.ref o0), .val (.int (0 : Int32)), .val (.int p2), .unset, .unset] [(.int (0 : Int32)), (.int p2)])) (fun t k => XS.iloadN X1.here hx rfl (hb hby d22_6) rfl k) ?_
  refine go _ (T1.setTop (mkF m 8 #[.val (.ref o0), .val (.int (0 : Int32)), .val (.int p2), .unset, .unset] [(.int (p2 - (0 : Int32)))])) (fun t k => XS.isub X1.here hx rfl (hb hby d22_7) rfl k) ?_
  rw [own_sub0]
  refine go _ (T1.setTop (mkF m 9 #[.val (.ref o0), .val (.int (0 : Int32)), .val (.int p2), .val (.int p2), .unset] [])) (fun t k => XS.istoreN X1.here hx rfl (hb hby d22_8) rfl (l' := #[.val (.ref o0), .val (.int (0 : Int32)), .val (.int p2), .val (.int p2), .unset]) rfl k) ?_
  refine go _ (T1.setTop (mkF m 10 #[.val (.ref o0), .val (.int (0 : Int32)), .val (.int p2), .val (.int p2), .unset] [(.int p2)])) (fun t k => XS.iloadN X1.here hx rfl (hb hby d22_9) rfl k) ?_
  obtain ⟨T2, h2, kk2, X2, e2, E2, Ar2, Ax2, st2⟩ := newPE X1 hx hZ (hw _ (List.mem_of_getElem? (i := 21) rfl)) eq1 (g := (mkF m 10 #[.val (.ref o0), .val (.int (0 : Int32)), .val (.int p2), .val (.int p2), .unset] [(.int p2)])) rfl (hb hby d22_10) rfl (own_nn Pm) (cap := 200) (by rw [own_nat Pm]; omega) (by decide) (by decide) (by decide) (ad := "[B") (by first | rfl | decide)
  obtain ⟨b2, gb2⟩ : ∃ z, z = h0.size := ⟨_, rfl⟩
  rw [← gb2] at Ar2 Ax2 st2
  have ne3_o0_b2 : o0 ≠ b2 := Nat.ne_of_lt (Nat.lt_of_lt_of_le PX.lt (Nat.le_of_eq gb2.symm))
  have g_b2 : n0 ≤ b2 := Nat.le_trans Z0 (Nat.le_of_eq gb2.symm)
  have sz_b2 : h0.size ≤ b2 := (Nat.le_of_eq gb2.symm)
  have Av2 : own_Av Z h2 b2 .byte mm (fun _ => (.int 0)) := own_Av.new Ar2 (own_nn Pm) (own_nat Pm)
  refine go _ (T2.setTop (mkF m 12 #[.val (.ref o0), .val (.int (0 : Int32)), .val (.int p2), .val (.int p2), .unset] [(.ref b2)])) st2 ?_
  refine go _ (T2.setTop (mkF m 14 #[.val (.ref o0), .val (.int (0 : Int32)), .val (.int p2), .val (.int p2), .val (.ref b2)] [])) (fun t k => XS.astore X2.here hx rfl (hb hby d22_12) rfl rfl (l' := #[.val (.ref o0), .val (.int (0 : Int32)), .val (.int p2), .val (.int p2), .val (.ref b2)]) rfl k) ?_
  refine go _ (T2.setTop (mkF m 15 #[.val (.ref o0), .val (.int (0 : Int32)), .val (.int p2), .val (.int p2), .val (.ref b2)] [(.ref o0)])) (fun t k => XS.aloadN X2.here hx rfl (hb hby d22_14) rfl rfl k) ?_
  refine go _ (T2.setTop (mkF m 16 #[.val (.ref o0), .val (.int (0 : Int32)), .val (.int p2), .val (.int p2), .val (.ref b2)] [(.int (0 : Int32)), (.ref o0)])) (fun t k => XS.iloadN X2.here hx rfl (hb hby d22_15) rfl k) ?_
  refine go _ (T2.setTop (mkF m 18 #[.val (.ref o0), .val (.int (0 : Int32)), .val (.int p2), .val (.int p2), .val (.ref b2)] [(.ref b2), (.int (0 : Int32)), (.ref o0)])) (fun t k => XS.aload X2.here hx rfl (hb hby d22_16) rfl rfl k) ?_
  refine go _ (T2.setTop (mkF m 19 #[.val (.ref o0), .val (.int (0 : Int32)), .val (.int p2), .val (.int p2), .val (.ref b2)] [(.int (0 : Int32)), (.ref b2), (.int (0 : Int32)), (.ref o0)])) (fun t k => XS.iconst X2.here hx rfl (hb hby d22_18) k) ?_
  refine go _ (T2.setTop (mkF m 20 #[.val (.ref o0), .val (.int (0 : Int32)), .val (.int p2), .val (.int p2), .val (.ref b2)] [(.ref o0), (.int (0 : Int32)), (.ref b2), (.int (0 : Int32)), (.ref o0)])) (fun t k => XS.aloadN X2.here hx rfl (hb hby d22_19) rfl rfl k) ?_
  have A4_o0 : own_Av Z h2 o0 .byte n f := (PA.ext E2)
  refine go _ (T2.setTop (mkF m 21 #[.val (.ref o0), .val (.int (0 : Int32)), .val (.int p2), .val (.int p2), .val (.ref b2)] [(.int (Int32.ofNat n)), (.int (0 : Int32)), (.ref b2), (.int (0 : Int32)), (.ref o0)])) (fun t k => own_len X2 hx hZ e2 A4_o0 hn32 (g := (mkF m 20 #[.val (.ref o0), .val (.int (0 : Int32)), .val (.int p2), .val (.int p2), .val (.ref b2)] [(.ref o0), (.int (0 : Int32)), (.ref b2), (.int (0 : Int32)), (.ref o0)])) rfl rfl (hb hby d22_20) _ k) ?_
  refine go _ (T2.setTop (mkF m 22 #[.val (.ref o0), .val (.int (0 : Int32)), .val (.int p2), .val (.int p2), .val (.ref b2)] [(.int (0 : Int32)), (.int (Int32.ofNat n)), (.int (0 : Int32)), (.ref b2), (.int (0 : Int32)), (.ref o0)])) (fun t k => XS.iloadN X2.here hx rfl (hb hby d22_21) rfl k) ?_
  refine go _ (T2.setTop (mkF m 23 #[.val (.ref o0), .val (.int (0 : Int32)), .val (.int p2), .val (.int p2), .val (.ref b2)] [(.int ((Int32.ofNat n) - (0 : Int32))), (.int (0 : Int32)), (.ref b2), (.int (0 : Int32)), (.ref o0)])) (fun t k => XS.isub X2.here hx rfl (hb hby d22_22) rfl k) ?_
  rw [own_sub0]
  refine go _ (T2.setTop (mkF m 24 #[.val (.ref o0), .val (.int (0 : Int32)), .val (.int p2), .val (.int p2), .val (.ref b2)] [(.int p2), (.int (Int32.ofNat n)), (.int (0 : Int32)), (.ref b2), (.int (0 : Int32)), (.ref o0)])) (fun t k => XS.iloadN X2.here hx rfl (hb hby d22_23) rfl k) ?_
  have Z5z : n0 ≤ h2.size := (Nat.le_trans Z0 E2.1)
  obtain ⟨_, _, ⟨T6, L6, k6, n6⟩, -, X6, ⟨Lc6, hQ6, l6, y6, z6⟩, st6⟩ := Jvm.LawKit.callS X2 hx (y := (⟨"java/lang/Math", "min", "(II)I"⟩ : MethodName)) hown (mvT hZ (hw _ (List.mem_of_getElem? (i := 131) rfl))) (mvT hZ (hw _ (List.mem_of_getElem? (i := 132) rfl))) (mvT hZ (hw _ (List.mem_of_getElem? (i := 133) rfl))) (mvT hZ (hw _ (List.mem_of_getElem? (i := 134) rfl))) (by decide) (backOf (W := 4) (rm24 l Z a0 hw [] (Int32.ofNat n) p2 h2 n0 Z5z ) hZ (hw _ (List.mem_of_getElem? (i := 134) rfl)) (hw _ (List.mem_of_getElem? (i := 133) rfl)) (by decide) (by decide)) (g := (mkF m 24 #[.val (.ref o0), .val (.int (0 : Int32)), .val (.int p2), .val (.int p2), .val (.ref b2)] [(.int p2), (.int (Int32.ofNat n)), (.int (0 : Int32)), (.ref b2), (.int (0 : Int32)), (.ref o0)])) rfl (by rw [hml]; rfl) (argsL := [(.int (Int32.ofNat n)), (.int p2)]) (rest := [(.int (0 : Int32)), (.ref b2), (.int (0 : Int32)), (.ref o0)]) (lenOf own_pd_1 rfl) rfl (by show 2 * 0 + _ ≤ _; exact Nat.le_of_eq rfl) (hb hby d22_24) (fun _ _ => ⟨rfl, e2, (by decide : 1 + 0 ≤ _), (by decide : 200 + 0 ≤ _)⟩)
  dsimp only [Pt.U, Pt.locs, Pt.cells, Pt.slots] at X6 l6 y6 z6 st6 hQ6
  subst l6 y6 z6
  obtain ⟨rfl, Nq6, eq6⟩ := hQ6
  have N6 := Fr.app N1 Nq6
  refine go _ (T6.setTop (mkF m 27 #[.val (.ref o0), .val (.int (0 : Int32)), .val (.int p2), .val (.int p2), .val (.ref b2)] [(.int (own_min (Int32.ofNat n) p2)), (.int (0 : Int32)), (.ref b2), (.int (0 : Int32)), (.ref o0)])) st6 ?_
  obtain ⟨T7, h7, L7, X7, e7, N7, K7, Av7, st7⟩ := own_cpy X6 hx hZ hown (hw _ (List.mem_of_getElem? (i := 135) rfl)) (hw _ (List.mem_of_getElem? (i := 81) rfl)) (hw _ (List.mem_of_getElem? (i := 79) rfl)) (hw _ (List.mem_of_getElem? (i := 80) rfl)) eq6 A4_o0 Av2 rfl (i := 0) (j := 0) (k := (min n mm)) (by decide) (by decide) (own_min_val hn32 Pm) (by omega) (by omega) N6 g_b2 (fr := (mkF m 27 #[.val (.ref o0), .val (.int (0 : Int32)), .val (.int p2), .val (.int p2), .val (.ref b2)] [(.int (own_min (Int32.ofNat n) p2)), (.int (0 : Int32)), (.ref b2), (.int (0 : Int32)), (.ref o0)])) rfl (by rw [hml]; rfl) rfl (hb hby d22_27) (by decide) (W := 0) (by show 2 * 0 + _ ≤ _; exact Nat.le_of_eq rfl) (by decide)
  refine go _ (T7.setTop (mkF m 30 #[.val (.ref o0), .val (.int (0 : Int32)), .val (.int p2), .val (.int p2), .val (.ref b2)] [])) st7 ?_
  refine go _ (T7.setTop (mkF m 32 #[.val (.ref o0), .val (.int (0 : Int32)), .val (.int p2), .val (.int p2), .val (.ref b2)] [(.ref b2)])) (fun t k => XS.aload X7.here hx rfl (hb hby d22_30) rfl rfl k) ?_
  have E8_b2 : Exa Z h7 b2 "[B" := (Ax2.keep K7)
  refine fin (some (.ref b2)) (mkF m 32 #[.val (.ref o0), .val (.int (0 : Int32)), .val (.int p2), .val (.int p2), .val (.ref b2)] [(.ref b2)]) X7 (fun h => by cases h) (fun fs hr => retOut X7 hx (t := (.array .byte)) hret rfl (Or.inr (Or.inr (Or.inr (Or.inr ⟨rfl, rfl, rfl⟩)))) (hb hby d22_32) hr) ?_ (by decide) (by decide)
  try rw [e7]
  exact ⟨b2, rfl, N7, sz_b2, (((Keep.refl h0 []).ext E2).trans K7 (allS (Or.inr sz_b2) all0)), E8_b2, _, Av7, fun i hi1 => by show (if 0 ≤ i ∧ i < 0 + min n mm then f (0 + (i - 0)) else _) = f i; rw [if_pos (by omega), Nat.zero_add, Nat.sub_zero]⟩
theorem own_ef21 (m : MethodId) (o0 : Addr) (p1 : Int32) (p2 : Int32) : entryFrame m #[(.ref o0), (.int p1), (.int p2)] 3 = mkF m 0 #[.val (.ref o0), .val (.int p1), .val (.int p2)] [] := by first | (simp [entryFrame, mkF, argsToLocals, Value.category]; done) | rfl
theorem own_pn21 : plainName "java/util/Arrays" = true := by first | (simp [plainName, overriddenIn]; done) | decide +kernel
theorem d21_0 : decode jdk_65_method_132_code 0 = .ok (.iload_n 1, 1) := by decide +kernel
theorem d21_1 : decode jdk_65_method_132_code 1 = .ok (.ifCond .ne 9, 3) := by decide +kernel
theorem d21_4 : decode jdk_65_method_132_code 4 = .ok (.iload_n 2, 1) := by decide +kernel
theorem d21_5 : decode jdk_65_method_132_code 5 = .ok (.aload_n 0, 1) := by decide +kernel
theorem d21_6 : decode jdk_65_method_132_code 6 = .ok (.arraylength, 1) := by decide +kernel
theorem d21_7 : decode jdk_65_method_132_code 7 = .ok (.if_icmp .eq 10, 3) := by decide +kernel
theorem d21_17 : decode jdk_65_method_132_code 17 = .ok (.aload_n 0, 1) := by decide +kernel
theorem d21_18 : decode jdk_65_method_132_code 18 = .ok (.invokevirtual 310, 3) := by decide +kernel
theorem d21_21 : decode jdk_65_method_132_code 21 = .ok (.checkcast 311, 3) := by decide +kernel
theorem d21_24 : decode jdk_65_method_132_code 24 = .ok (.areturn, 1) := by decide +kernel
theorem d21_10 : decode jdk_65_method_132_code 10 = .ok (.aload_n 0, 1) := by decide +kernel
theorem d21_11 : decode jdk_65_method_132_code 11 = .ok (.iload_n 1, 1) := by decide +kernel
theorem d21_12 : decode jdk_65_method_132_code 12 = .ok (.iload_n 2, 1) := by decide +kernel
theorem d21_13 : decode jdk_65_method_132_code 13 = .ok (.invokestatic 339, 3) := by decide +kernel
theorem own_pd_3 : parseMethodDescriptor "([BII)[B" = some ⟨[(.array .byte), .int, .int], some (.array .byte)⟩ := by decide +kernel
theorem d21_16 : decode jdk_65_method_132_code 16 = .ok (.areturn, 1) := by decide +kernel
def own_Q21 (Z : State) (o0 : Addr) (p1 : Int32) (p2 : Int32) (n : Nat) (mm : Nat) (f : Nat → Value) (h0 : Heap) (n0 : Nat) (v : Option Value) (h : Heap) (L : List Loc) : Prop := ∃ r : Addr, v = some (.ref r) ∧ Fr n0 L ∧ h0.size ≤ r ∧ Keep h0 h [] ∧ Exa Z h r "[B" ∧ ∃ f' : Nat → Value, own_Av Z h r .byte mm f' ∧ ∀ i, i < mm → f' i = f i
set_option maxRecDepth 65536 in
set_option maxHeartbeats 40000000 in
theorem rm21 (l : Launch) (Z : State) (a0 : Array Value) (hw : ∀ d ∈ tables_1, d.before a0 Z = true) (ws : List Jvm.Cond) (o0 : Addr) (p1 : Int32) (p2 : Int32) (n : Nat) (mm : Nat) (f : Nat → Value) (h0 : Heap) (n0 : Nat) (Z0 : n0 ≤ h0.size) (PA : own_Av Z h0 o0 .byte n f) (PX : Exa Z h0 o0 "[B") (Pz : p1 = (0 : Int32)) (Pm : p2.toInt = (mm : Int)) (PM : mm ≤ n) (Pn : n ≤ 200) :
    MetFree l (⟨"java/util/Arrays", "copyOfRange", "([BII)[B"⟩ : MethodName) (head1 (Jvm.Cond.code (⟨"java/util/Arrays", "copyOfRange", "([BII)[B"⟩ : MethodName) jdk_65_method_132_code 3 (some (.array .byte)) :: ws) ({ frames := 2, cells := 1, slots := 200, locals := 34 } : Room)) (fun a U => a = #[(.ref o0), (.int p1), (.int p2)] ∧ Z.Warmed39 U.vm ∧ U.heap = h0) (fun _ _ _ _ _ => True) (fun _ U o U' => ∃ v L, o = .returned v ∧ own_Q21 Z o0 p1 p2 n mm f h0 n0 v U'.heap L ∧ FrameEnd U o U' L ({ frames := 2, cells := 1, slots := 200, locals := 34 } : Room).cells ({ frames := 2, cells := 1, slots := 200, locals := 34 } : Room).slots) := by
  refine own_metfree (Q := own_Q21 Z o0 p1 p2 n mm f h0 n0) (plainFor_of_name own_pn21) ?_
  intro p e s m below meth c s₁ X0 hx hby hml hret hown hnm hZ e0 G go fin
  have N0 := Fr.nil n0
  refine go _ (s₁.setTop (mkF m 0 #[.val (.ref o0), .val (.int p1), .val (.int p2)] [])) (fun t k => castTop (own_ef21 m o0 p1 p2) k) ?_
  have hn32 := own_n32 (n := n) (by omega)
  rw [Pz]
  refine go _ (s₁.setTop (mkF m 1 #[.val (.ref o0), .val (.int (0 : Int32)), .val (.int p2)] [(.int (0 : Int32))])) (fun t k => XS.iloadN X0.here hx rfl (hb hby d21_0) rfl k) ?_
  have hc1 : (0 : Int32) = (0 : Int32) := by decide
  refine go _ (s₁.setTop (mkF m 4 #[.val (.ref o0), .val (.int (0 : Int32)), .val (.int p2)] [])) (fun t k => XS.ifNo X0.here hx rfl (hb hby d21_1) rfl ((if0 _ _).trans (teq hc1).2) k) ?_
  refine go _ (s₁.setTop (mkF m 5 #[.val (.ref o0), .val (.int (0 : Int32)), .val (.int p2)] [(.int p2)])) (fun t k => XS.iloadN X0.here hx rfl (hb hby d21_4) rfl k) ?_
  refine go _ (s₁.setTop (mkF m 6 #[.val (.ref o0), .val (.int (0 : Int32)), .val (.int p2)] [(.ref o0), (.int p2)])) (fun t k => XS.aloadN X0.here hx rfl (hb hby d21_5) rfl rfl k) ?_
  refine go _ (s₁.setTop (mkF m 7 #[.val (.ref o0), .val (.int (0 : Int32)), .val (.int p2)] [(.int (Int32.ofNat n)), (.int p2)])) (fun t k => own_len X0 hx hZ e0 PA hn32 (g := (mkF m 6 #[.val (.ref o0), .val (.int (0 : Int32)), .val (.int p2)] [(.ref o0), (.int p2)])) rfl rfl (hb hby d21_6) _ k) ?_
  rcases Decidable.em (p2 = (Int32.ofNat n)) with hc7 | hc7
  · refine go _ (s₁.setTop (mkF m 17 #[.val (.ref o0), .val (.int (0 : Int32)), .val (.int p2)] [])) (fun t k => XS.icmpYes X0.here hx rfl (pc0 := 7) (pc' := 17) rfl (hb hby d21_7) rfl (teq hc7).1 (by decide) (by decide) k) ?_
    refine go _ (s₁.setTop (mkF m 18 #[.val (.ref o0), .val (.int (0 : Int32)), .val (.int p2)] [(.ref o0)])) (fun t k => XS.aloadN X0.here hx rfl (hb hby d21_17) rfl rfl k) ?_
    have hnm : mm = n := by have := (own_eqn Pm hn32).mp hc7; omega
    obtain ⟨T1, h1, X1, e1, E1, Av1, Ax1, st1⟩ := own_clone X0 hx hZ hown (hw _ (List.mem_of_getElem? (i := 189) rfl)) (hw _ (List.mem_of_getElem? (i := 190) rfl)) (hw _ (List.mem_of_getElem? (i := 194) rfl)) (hw _ (List.mem_of_getElem? (i := 192) rfl)) (hw _ (List.mem_of_getElem? (i := 193) rfl)) (hw _ (List.mem_of_getElem? (i := 195) rfl)) e0 PA PX (g := (mkF m 18 #[.val (.ref o0), .val (.int (0 : Int32)), .val (.int p2)] [(.ref o0)])) rfl (by rw [hml]; rfl) rfl (hb hby d21_18) (by decide) (W := 0) (cap := 200) (by show 2 * 0 + _ ≤ _; exact Nat.le_of_eq rfl) (by decide) (by omega) (by decide) (by decide)
    obtain ⟨b1, gb1⟩ : ∃ z, z = h0.size := ⟨_, rfl⟩
    rw [← gb1] at Av1 Ax1 st1
    have ne2_o0_b1 : o0 ≠ b1 := Nat.ne_of_lt (Nat.lt_of_lt_of_le PX.lt (Nat.le_of_eq gb1.symm))
    have g_b1 : n0 ≤ b1 := Nat.le_trans Z0 (Nat.le_of_eq gb1.symm)
    have sz_b1 : h0.size ≤ b1 := (Nat.le_of_eq gb1.symm)
    refine go _ (T1.setTop (mkF m 21 #[.val (.ref o0), .val (.int (0 : Int32)), .val (.int p2)] [(.ref b1)])) st1 ?_
    obtain ⟨T3, X3, e3, st3⟩ := castY X1 hx hZ hown (hw _ (List.mem_of_getElem? (i := 196) rfl)) e1 (Ins.self Ax1) (g := (mkF m 21 #[.val (.ref o0), .val (.int (0 : Int32)), .val (.int p2)] [(.ref b1)])) rfl rfl (hb hby d21_21)
    refine go _ (T3.setTop (mkF m 24 #[.val (.ref o0), .val (.int (0 : Int32)), .val (.int p2)] [(.ref b1)])) st3 ?_
    refine fin (some (.ref b1)) (mkF m 24 #[.val (.ref o0), .val (.int (0 : Int32)), .val (.int p2)] [(.ref b1)]) X3 (fun h => by cases h) (fun fs hr => retOut X3 hx (t := (.array .byte)) hret rfl (Or.inr (Or.inr (Or.inr (Or.inr ⟨rfl, rfl, rfl⟩)))) (hb hby d21_24) hr) ?_ (by decide) (by decide)
    try rw [e3]
    exact ⟨b1, rfl, N0, sz_b1, ((Keep.refl h0 []).ext E1), Ax1, f, by rw [hnm]; exact Av1, fun i _ => rfl⟩
  · refine go _ (s₁.setTop (mkF m 10 #[.val (.ref o0), .val (.int (0 : Int32)), .val (.int p2)] [])) (fun t k => XS.icmpNo X0.here hx rfl (hb hby d21_7) rfl (feq hc7).1 k) ?_
    refine go _ (s₁.setTop (mkF m 11 #[.val (.ref o0), .val (.int (0 : Int32)), .val (.int p2)] [(.ref o0)])) (fun t k => XS.aloadN X0.here hx rfl (hb hby d21_10) rfl rfl k) ?_
    refine go _ (s₁.setTop (mkF m 12 #[.val (.ref o0), .val (.int (0 : Int32)), .val (.int p2)] [(.int (0 : Int32)), (.ref o0)])) (fun t k => XS.iloadN X0.here hx rfl (hb hby d21_11) rfl k) ?_
    refine go _ (s₁.setTop (mkF m 13 #[.val (.ref o0), .val (.int (0 : Int32)), .val (.int p2)] [(.int p2), (.int (0 : Int32)), (.ref o0)])) (fun t k => XS.iloadN X0.here hx rfl (hb hby d21_12) rfl k) ?_
    obtain ⟨_, _, ⟨T4, L4, k4, n4⟩, -, X4, ⟨Lc4, hQ4, l4, y4, z4⟩, st4⟩ := Jvm.LawKit.callS X0 hx (y := (⟨"java/util/Arrays", "copyOfRangeByte", "([BII)[B"⟩ : MethodName)) hown (mvT hZ (hw _ (List.mem_of_getElem? (i := 125) rfl))) (mvT hZ (hw _ (List.mem_of_getElem? (i := 126) rfl))) (mvT hZ (hw _ (List.mem_of_getElem? (i := 123) rfl))) (mvT hZ (hw _ (List.mem_of_getElem? (i := 127) rfl))) (by decide) (backOf (W := 0) (rm22 l Z a0 hw [] o0 (0 : Int32) p2 n mm f h0 n0 Z0 PA PX rfl Pm PM Pn) hZ (hw _ (List.mem_of_getElem? (i := 127) rfl)) (hw _ (List.mem_of_getElem? (i := 123) rfl)) (by decide) (by decide)) (g := (mkF m 13 #[.val (.ref o0), .val (.int (0 : Int32)), .val (.int p2)] [(.int p2), (.int (0 : Int32)), (.ref o0)])) rfl (by rw [hml]; rfl) (argsL := [(.ref o0), (.int (0 : Int32)), (.int p2)]) (rest := []) (lenOf own_pd_3 rfl) rfl (by show 2 * 0 + _ ≤ _; exact Nat.le_of_eq rfl) (hb hby d21_13) (fun _ _ => ⟨rfl, e0, (by decide : 0 + 1 ≤ _), (by decide : 0 + 200 ≤ _)⟩)
    dsimp only [Pt.U, Pt.locs, Pt.cells, Pt.slots] at X4 l4 y4 z4 st4 hQ4
    subst l4 y4 z4
    obtain ⟨rr4, rfl, Nq4, sr4, K4, Xr4, fr4, Ar4, ag4⟩ := hQ4
    have N4 := Fr.app N0 Nq4
    have ne5_o0_rr4 : o0 ≠ rr4 := Nat.ne_of_lt (Nat.lt_of_lt_of_le PX.lt sr4)
    have sz_rr4 : h0.size ≤ rr4 := sr4
    have g_rr4 : n0 ≤ rr4 := Nat.le_trans Z0 sr4
    refine go _ (T4.setTop (mkF m 16 #[.val (.ref o0), .val (.int (0 : Int32)), .val (.int p2)] [(.ref rr4)])) st4 ?_
    refine fin (some (.ref rr4)) (mkF m 16 #[.val (.ref o0), .val (.int (0 : Int32)), .val (.int p2)] [(.ref rr4)]) X4 (fun h => by cases h) (fun fs hr => retOut X4 hx (t := (.array .byte)) hret rfl (Or.inr (Or.inr (Or.inr (Or.inr ⟨rfl, rfl, rfl⟩)))) (hb hby d21_16) hr) ?_ (by decide) (by decide)
    exact ⟨rr4, rfl, N4, sz_rr4, ((Keep.refl h0 []).trans K4 all0), Xr4, _, Ar4, ag4⟩
theorem own_ef34 (m : MethodId) (p0 : Int32) (p1 : Int32) (p2 : Int32) : entryFrame m #[(.int p0), (.int p1), (.int p2)] 4 = mkF m 0 #[.val (.int p0), .val (.int p1), .val (.int p2), .unset] [] := by first | (simp [entryFrame, mkF, argsToLocals, Value.category]; done) | rfl
theorem own_pn34 : plainName "jdk/internal/util/ArraysSupport" = true := by first | (simp [plainName, overriddenIn]; done) | decide +kernel
theorem d34_0 : decode jdk_48_method_27_code 0 = .ok (.iload_n 0, 1) := by decide +kernel
theorem d34_1 : decode jdk_48_method_27_code 1 = .ok (.iload_n 1, 1) := by decide +kernel
theorem d34_2 : decode jdk_48_method_27_code 2 = .ok (.iload_n 2, 1) := by decide +kernel
theorem d34_3 : decode jdk_48_method_27_code 3 = .ok (.invokestatic 194, 3) := by decide +kernel
theorem d34_6 : decode jdk_48_method_27_code 6 = .ok (.iadd, 1) := by decide +kernel
theorem d34_7 : decode jdk_48_method_27_code 7 = .ok (.istore_n 3, 1) := by decide +kernel
theorem d34_8 : decode jdk_48_method_27_code 8 = .ok (.iconst 0, 1) := by decide +kernel
theorem d34_9 : decode jdk_48_method_27_code 9 = .ok (.iload_n 3, 1) := by decide +kernel
theorem d34_10 : decode jdk_48_method_27_code 10 = .ok (.if_icmp .ge 11, 3) := by decide +kernel
theorem d34_13 : decode jdk_48_method_27_code 13 = .ok (.iload_n 3, 1) := by decide +kernel
theorem d34_14 : decode jdk_48_method_27_code 14 = .ok (.ldc 200, 2) := by decide +kernel
theorem d34_16 : decode jdk_48_method_27_code 16 = .ok (.if_icmp .gt 5, 3) := by decide +kernel
theorem d34_19 : decode jdk_48_method_27_code 19 = .ok (.iload_n 3, 1) := by decide +kernel
theorem d34_20 : decode jdk_48_method_27_code 20 = .ok (.ireturn, 1) := by decide +kernel
def own_Q34 (Z : State) (p0 : Int32) (p1 : Int32) (p2 : Int32) (na : Nat) (nb : Nat) (nc : Nat) (h0 : Heap) (n0 : Nat) (v : Option Value) (h : Heap) (L : List Loc) : Prop := v = some (.int (Int32.ofNat (na + max nb nc))) ∧ Fr n0 L ∧ h = h0
set_option maxRecDepth 65536 in
set_option maxHeartbeats 40000000 in
theorem rm34 (l : Launch) (Z : State) (a0 : Array Value) (hw : ∀ d ∈ tables_1, d.before a0 Z = true) (ws : List Jvm.Cond) (p0 : Int32) (p1 : Int32) (p2 : Int32) (na : Nat) (nb : Nat) (nc : Nat) (h0 : Heap) (n0 : Nat) (Z0 : n0 ≤ h0.size) (H0 : p0.toInt = (na : Int)) (H1 : p1.toInt = (nb : Int)) (H2 : p2.toInt = (nc : Int)) (B0 : 0 < na) (B1 : na + max nb nc < 1000) :
    MetFree l (⟨"jdk/internal/util/ArraysSupport", "newLength", "(III)I"⟩ : MethodName) (head1 (Jvm.Cond.code (⟨"jdk/internal/util/ArraysSupport", "newLength", "(III)I"⟩ : MethodName) jdk_48_method_27_code 4 (some .int) :: ws) ({ frames := 1, cells := 0, slots := 0, locals := 14 } : Room)) (fun a U => a = #[(.int p0), (.int p1), (.int p2)] ∧ Z.Warmed39 U.vm ∧ U.heap = h0) (fun _ _ _ _ _ => True) (fun _ U o U' => ∃ v L, o = .returned v ∧ own_Q34 Z p0 p1 p2 na nb nc h0 n0 v U'.heap L ∧ FrameEnd U o U' L ({ frames := 1, cells := 0, slots := 0, locals := 14 } : Room).cells ({ frames := 1, cells := 0, slots := 0, locals := 14 } : Room).slots) := by
  refine own_metfree (Q := own_Q34 Z p0 p1 p2 na nb nc h0 n0) (plainFor_of_name own_pn34) ?_
  intro p e s m below meth c s₁ X0 hx hby hml hret hown hnm hZ e0 G go fin
  have N0 := Fr.nil n0
  refine go _ (s₁.setTop (mkF m 0 #[.val (.int p0), .val (.int p1), .val (.int p2), .unset] [])) (fun t k => castTop (own_ef34 m p0 p1 p2) k) ?_
  refine go _ (s₁.setTop (mkF m 1 #[.val (.int p0), .val (.int p1), .val (.int p2), .unset] [(.int p0)])) (fun t k => XS.iloadN X0.here hx rfl (hb hby d34_0) rfl k) ?_
  refine go _ (s₁.setTop (mkF m 2 #[.val (.int p0), .val (.int p1), .val (.int p2), .unset] [(.int p1), (.int p0)])) (fun t k => XS.iloadN X0.here hx rfl (hb hby d34_1) rfl k) ?_
  refine go _ (s₁.setTop (mkF m 3 #[.val (.int p0), .val (.int p1), .val (.int p2), .unset] [(.int p2), (.int p1), (.int p0)])) (fun t k => XS.iloadN X0.here hx rfl (hb hby d34_2) rfl k) ?_
  obtain ⟨_, _, ⟨T1, L1, k1, n1⟩, -, X1, ⟨Lc1, hQ1, l1, y1, z1⟩, st1⟩ := Jvm.LawKit.callS X0 hx (y := (⟨"java/lang/Math", "max", "(II)I"⟩ : MethodName)) hown (mvT hZ (hw _ (List.mem_of_getElem? (i := 181) rfl))) (mvT hZ (hw _ (List.mem_of_getElem? (i := 182) rfl))) (mvT hZ (hw _ (List.mem_of_getElem? (i := 133) rfl))) (mvT hZ (hw _ (List.mem_of_getElem? (i := 183) rfl))) (by decide) (backOf (W := 1) (rm35 l Z a0 hw [] p1 p2 h0 n0 Z0 ) hZ (hw _ (List.mem_of_getElem? (i := 183) rfl)) (hw _ (List.mem_of_getElem? (i := 133) rfl)) (by decide) (by decide)) (g := (mkF m 3 #[.val (.int p0), .val (.int p1), .val (.int p2), .unset] [(.int p2), (.int p1), (.int p0)])) rfl (by rw [hml]; rfl) (argsL := [(.int p1), (.int p2)]) (rest := [(.int p0)]) (lenOf own_pd_1 rfl) rfl (by show 2 * 0 + _ ≤ _; exact Nat.le_of_eq rfl) (hb hby d34_3) (fun _ _ => ⟨rfl, e0, (by decide : 0 + 0 ≤ _), (by decide : 0 + 0 ≤ _)⟩)
  dsimp only [Pt.U, Pt.locs, Pt.cells, Pt.slots] at X1 l1 y1 z1 st1 hQ1
  subst l1 y1 z1
  obtain ⟨rfl, Nq1, eq1⟩ := hQ1
  have N1 := Fr.app N0 Nq1
  refine go _ (T1.setTop (mkF m 6 #[.val (.int p0), .val (.int p1), .val (.int p2), .unset] [(.int (own_max p1 p2)), (.int p0)])) st1 ?_
  refine go _ (T1.setTop (mkF m 7 #[.val (.int p0), .val (.int p1), .val (.int p2), .unset] [(.int (p0 + (own_max p1 p2)))])) (fun t k => XS.iadd X1.here hx rfl (hb hby d34_6) rfl k) ?_
  generalize hv_vl : (p0 + (own_max p1 p2)) = vl
  have hvl : vl.toInt = ((na + max nb nc : Nat) : Int) := by rw [← hv_vl]; exact own_addn H0 (own_max_val H1 H2) (by omega)
  refine go _ (T1.setTop (mkF m 8 #[.val (.int p0), .val (.int p1), .val (.int p2), .val (.int vl)] [])) (fun t k => XS.istoreN X1.here hx rfl (hb hby d34_7) rfl (l' := #[.val (.int p0), .val (.int p1), .val (.int p2), .val (.int vl)]) rfl k) ?_
  refine go _ (T1.setTop (mkF m 9 #[.val (.int p0), .val (.int p1), .val (.int p2), .val (.int vl)] [(.int (0 : Int32))])) (fun t k => XS.iconst X1.here hx rfl (hb hby d34_8) k) ?_
  refine go _ (T1.setTop (mkF m 10 #[.val (.int p0), .val (.int p1), .val (.int p2), .val (.int vl)] [(.int vl), (.int (0 : Int32))])) (fun t k => XS.iloadN X1.here hx rfl (hb hby d34_9) rfl k) ?_
  have hc10 : (0 : Int32) < vl := by rw [own_lt (n := na + max nb nc) (o := 0) (by decide) hvl]; omega
  refine go _ (T1.setTop (mkF m 13 #[.val (.int p0), .val (.int p1), .val (.int p2), .val (.int vl)] [])) (fun t k => XS.icmpNo X1.here hx rfl (hb hby d34_10) rfl (tlt hc10).2.1 k) ?_
  refine go _ (T1.setTop (mkF m 14 #[.val (.int p0), .val (.int p1), .val (.int p2), .val (.int vl)] [(.int vl)])) (fun t k => XS.iloadN X1.here hx rfl (hb hby d34_13) rfl k) ?_
  refine go _ (T1.setTop (mkF m 16 #[.val (.int p0), .val (.int p1), .val (.int p2), .val (.int vl)] [(.int (2147483639 : Int32)), (.int vl)])) (fun t k => X1.ldcInt hx hown (mvT hZ (hw _ (List.mem_of_getElem? (i := 184) rfl))) (g := (mkF m 14 #[.val (.int p0), .val (.int p1), .val (.int p2), .val (.int vl)] [(.int vl)])) rfl (hb hby d34_14) _ k) ?_
  have hc16 : ¬ ((2147483639 : Int32) < vl) := by rw [own_lt (n := na + max nb nc) (o := 2147483639) (by decide) hvl]; omega
  refine go _ (T1.setTop (mkF m 19 #[.val (.int p0), .val (.int p1), .val (.int p2), .val (.int vl)] [])) (fun t k => XS.icmpNo X1.here hx rfl (hb hby d34_16) rfl (flt hc16).2.2.1 k) ?_
  refine go _ (T1.setTop (mkF m 20 #[.val (.int p0), .val (.int p1), .val (.int p2), .val (.int vl)] [(.int vl)])) (fun t k => XS.iloadN X1.here hx rfl (hb hby d34_19) rfl k) ?_
  refine fin (some (.int vl)) (mkF m 20 #[.val (.int p0), .val (.int p1), .val (.int p2), .val (.int vl)] [(.int vl)]) X1 (fun h => by cases h) (fun fs hr => retOut X1 hx (t := .int) hret rfl (Or.inl ⟨rfl, by simp, _, rfl⟩) (hb hby d34_20) hr) ?_ (by decide) (by decide)
  try rw [eq1]
  exact ⟨by rw [← own_ofn hvl], N1, rfl⟩
theorem own_ef33 (m : MethodId) (o0 : Addr) (p1 : Int32) : entryFrame m #[(.ref o0), (.int p1)] 6 = mkF m 0 #[.val (.ref o0), .val (.int p1), .unset, .unset, .unset, .unset] [] := by first | (simp [entryFrame, mkF, argsToLocals, Value.category]; done) | rfl
theorem own_pn33 : plainName "java/lang/AbstractStringBuilder" = true := by first | (simp [plainName, overriddenIn]; done) | decide +kernel
theorem d33_0 : decode jdk_68_method_10_code 0 = .ok (.aload_n 0, 1) := by decide +kernel
theorem d33_1 : decode jdk_68_method_10_code 1 = .ok (.getfield 15, 3) := by decide +kernel
theorem d33_4 : decode jdk_68_method_10_code 4 = .ok (.arraylength, 1) := by decide +kernel
theorem d33_5 : decode jdk_68_method_10_code 5 = .ok (.istore_n 2, 1) := by decide +kernel
theorem d33_6 : decode jdk_68_method_10_code 6 = .ok (.iload_n 1, 1) := by decide +kernel
theorem d33_7 : decode jdk_68_method_10_code 7 = .ok (.aload_n 0, 1) := by decide +kernel
theorem d33_8 : decode jdk_68_method_10_code 8 = .ok (.getfield 22, 3) := by decide +kernel
theorem d33_11 : decode jdk_68_method_10_code 11 = .ok (.ishl, 1) := by decide +kernel
theorem d33_12 : decode jdk_68_method_10_code 12 = .ok (.istore_n 3, 1) := by decide +kernel
theorem d33_13 : decode jdk_68_method_10_code 13 = .ok (.iload_n 3, 1) := by decide +kernel
theorem d33_14 : decode jdk_68_method_10_code 14 = .ok (.iload_n 2, 1) := by decide +kernel
theorem d33_15 : decode jdk_68_method_10_code 15 = .ok (.isub, 1) := by decide +kernel
theorem d33_16 : decode jdk_68_method_10_code 16 = .ok (.istore 4, 2) := by decide +kernel
theorem d33_18 : decode jdk_68_method_10_code 18 = .ok (.iload_n 2, 1) := by decide +kernel
theorem d33_19 : decode jdk_68_method_10_code 19 = .ok (.iload 4, 2) := by decide +kernel
theorem d33_21 : decode jdk_68_method_10_code 21 = .ok (.iload_n 2, 1) := by decide +kernel
theorem d33_22 : decode jdk_68_method_10_code 22 = .ok (.iconst 2, 1) := by decide +kernel
theorem d33_23 : decode jdk_68_method_10_code 23 = .ok (.aload_n 0, 1) := by decide +kernel
theorem d33_24 : decode jdk_68_method_10_code 24 = .ok (.getfield 22, 3) := by decide +kernel
theorem d33_27 : decode jdk_68_method_10_code 27 = .ok (.ishl, 1) := by decide +kernel
theorem d33_28 : decode jdk_68_method_10_code 28 = .ok (.iadd, 1) := by decide +kernel
theorem d33_29 : decode jdk_68_method_10_code 29 = .ok (.invokestatic 114, 3) := by decide +kernel
theorem own_pd_4 : parseMethodDescriptor "(III)I" = some ⟨[.int, .int, .int], some .int⟩ := by decide +kernel
theorem d33_32 : decode jdk_68_method_10_code 32 = .ok (.istore 5, 2) := by decide +kernel
theorem d33_34 : decode jdk_68_method_10_code 34 = .ok (.iload 5, 2) := by decide +kernel
theorem d33_36 : decode jdk_68_method_10_code 36 = .ok (.ldc 39, 2) := by decide +kernel
theorem d33_38 : decode jdk_68_method_10_code 38 = .ok (.if_icmp .ne 13, 3) := by decide +kernel
theorem d33_51 : decode jdk_68_method_10_code 51 = .ok (.iload 5, 2) := by decide +kernel
theorem d33_53 : decode jdk_68_method_10_code 53 = .ok (.aload_n 0, 1) := by decide +kernel
theorem d33_54 : decode jdk_68_method_10_code 54 = .ok (.getfield 22, 3) := by decide +kernel
theorem d33_57 : decode jdk_68_method_10_code 57 = .ok (.ishr, 1) := by decide +kernel
theorem d33_58 : decode jdk_68_method_10_code 58 = .ok (.ireturn, 1) := by decide +kernel
def own_Q33 (Z : State) (o0 : Addr) (p1 : Int32) (ob : Addr) (g : Nat → Value) (mc : Nat) (h0 : Heap) (n0 : Nat) (v : Option Value) (h : Heap) (L : List Loc) : Prop := v = some (.int (Int32.ofNat (max mc 34))) ∧ Fr n0 L ∧ h = h0
set_option maxRecDepth 65536 in
set_option maxHeartbeats 40000000 in
theorem rm33 (l : Launch) (Z : State) (a0 : Array Value) (hw : ∀ d ∈ tables_1, d.before a0 Z = true) (ws : List Jvm.Cond) (o0 : Addr) (p1 : Int32) (ob : Addr) (g : Nat → Value) (mc : Nat) (h0 : Heap) (n0 : Nat) (Z0 : n0 ≤ h0.size) (QE : Exa Z h0 o0 "java/lang/StringBuilder") (QC : Fld Z h0 o0 "java/lang/AbstractStringBuilder" "coder" "B" (.int (0 : Int32))) (QV : Fld Z h0 o0 "java/lang/AbstractStringBuilder" "value" "[B" (.ref ob)) (QA : own_Av Z h0 ob .byte 16 g) (QX : Exa Z h0 ob "[B") (Pp : p1.toInt = (mc : Int)) (B1 : 16 < mc) (B2 : mc ≤ 200) :
    MetFree l (⟨"java/lang/AbstractStringBuilder", "newCapacity", "(I)I"⟩ : MethodName) (head1 (Jvm.Cond.code (⟨"java/lang/AbstractStringBuilder", "newCapacity", "(I)I"⟩ : MethodName) jdk_68_method_10_code 6 (some .int) :: ws) ({ frames := 2, cells := 0, slots := 0, locals := 29 } : Room)) (fun a U => a = #[(.ref o0), (.int p1)] ∧ Z.Warmed39 U.vm ∧ U.heap = h0) (fun _ _ _ _ _ => True) (fun _ U o U' => ∃ v L, o = .returned v ∧ own_Q33 Z o0 p1 ob g mc h0 n0 v U'.heap L ∧ FrameEnd U o U' L ({ frames := 2, cells := 0, slots := 0, locals := 29 } : Room).cells ({ frames := 2, cells := 0, slots := 0, locals := 29 } : Room).slots) := by
  refine own_metfree (Q := own_Q33 Z o0 p1 ob g mc h0 n0) (plainFor_of_name own_pn33) ?_
  intro p e s m below meth c s₁ X0 hx hby hml hret hown hnm hZ e0 G go fin
  have N0 := Fr.nil n0
  refine go _ (s₁.setTop (mkF m 0 #[.val (.ref o0), .val (.int p1), .unset, .unset, .unset, .unset] [])) (fun t k => castTop (own_ef33 m o0 p1) k) ?_
  refine go _ (s₁.setTop (mkF m 1 #[.val (.ref o0), .val (.int p1), .unset, .unset, .unset, .unset] [(.ref o0)])) (fun t k => XS.aloadN X0.here hx rfl (hb hby d33_0) rfl rfl k) ?_
  obtain ⟨T1, X1, e1, st1⟩ := getF X0 hx hZ hown (host := "") (Or.inl (hw _ (List.mem_of_getElem? (i := 22) rfl))) Via.refl e0 QV (g := (mkF m 1 #[.val (.ref o0), .val (.int p1), .unset, .unset, .unset, .unset] [(.ref o0)])) rfl rfl (hb hby d33_1)
  refine go _ (T1.setTop (mkF m 4 #[.val (.ref o0), .val (.int p1), .unset, .unset, .unset, .unset] [(.ref ob)])) st1 ?_
  refine go _ (T1.setTop (mkF m 5 #[.val (.ref o0), .val (.int p1), .unset, .unset, .unset, .unset] [(.int (16 : Int32))])) (fun t k => own_len X1 hx hZ e1 QA (by decide) (g := (mkF m 4 #[.val (.ref o0), .val (.int p1), .unset, .unset, .unset, .unset] [(.ref ob)])) rfl rfl (hb hby d33_4) _ k) ?_
  refine go _ (T1.setTop (mkF m 6 #[.val (.ref o0), .val (.int p1), .val (.int (16 : Int32)), .unset, .unset, .unset] [])) (fun t k => XS.istoreN X1.here hx rfl (hb hby d33_5) rfl (l' := #[.val (.ref o0), .val (.int p1), .val (.int (16 : Int32)), .unset, .unset, .unset]) rfl k) ?_
  refine go _ (T1.setTop (mkF m 7 #[.val (.ref o0), .val (.int p1), .val (.int (16 : Int32)), .unset, .unset, .unset] [(.int p1)])) (fun t k => XS.iloadN X1.here hx rfl (hb hby d33_6) rfl k) ?_
  refine go _ (T1.setTop (mkF m 8 #[.val (.ref o0), .val (.int p1), .val (.int (16 : Int32)), .unset, .unset, .unset] [(.ref o0), (.int p1)])) (fun t k => XS.aloadN X1.here hx rfl (hb hby d33_7) rfl rfl k) ?_
  obtain ⟨T2, X2, e2, st2⟩ := getF X1 hx hZ hown (host := "") (Or.inl (hw _ (List.mem_of_getElem? (i := 24) rfl))) Via.refl e1 QC (g := (mkF m 8 #[.val (.ref o0), .val (.int p1), .val (.int (16 : Int32)), .unset, .unset, .unset] [(.ref o0), (.int p1)])) rfl rfl (hb hby d33_8)
  refine go _ (T2.setTop (mkF m 11 #[.val (.ref o0), .val (.int p1), .val (.int (16 : Int32)), .unset, .unset, .unset] [(.int (0 : Int32)), (.int p1)])) st2 ?_
  refine go _ (T2.setTop (mkF m 12 #[.val (.ref o0), .val (.int p1), .val (.int (16 : Int32)), .unset, .unset, .unset] [(.int (p1 <<< ((0 : Int32) &&& 31)))])) (fun t k => XS.ishl X2.here hx rfl (hb hby d33_11) rfl k) ?_
  rw [own_sh0l]
  refine go _ (T2.setTop (mkF m 13 #[.val (.ref o0), .val (.int p1), .val (.int (16 : Int32)), .val (.int p1), .unset, .unset] [])) (fun t k => XS.istoreN X2.here hx rfl (hb hby d33_12) rfl (l' := #[.val (.ref o0), .val (.int p1), .val (.int (16 : Int32)), .val (.int p1), .unset, .unset]) rfl k) ?_
  refine go _ (T2.setTop (mkF m 14 #[.val (.ref o0), .val (.int p1), .val (.int (16 : Int32)), .val (.int p1), .unset, .unset] [(.int p1)])) (fun t k => XS.iloadN X2.here hx rfl (hb hby d33_13) rfl k) ?_
  refine go _ (T2.setTop (mkF m 15 #[.val (.ref o0), .val (.int p1), .val (.int (16 : Int32)), .val (.int p1), .unset, .unset] [(.int (16 : Int32)), (.int p1)])) (fun t k => XS.iloadN X2.here hx rfl (hb hby d33_14) rfl k) ?_
  refine go _ (T2.setTop (mkF m 16 #[.val (.ref o0), .val (.int p1), .val (.int (16 : Int32)), .val (.int p1), .unset, .unset] [(.int (p1 - (16 : Int32)))])) (fun t k => XS.isub X2.here hx rfl (hb hby d33_15) rfl k) ?_
  refine go _ (T2.setTop (mkF m 18 #[.val (.ref o0), .val (.int p1), .val (.int (16 : Int32)), .val (.int p1), .val (.int (p1 - (16 : Int32))), .unset] [])) (fun t k => XS.istore X2.here hx rfl (hb hby d33_16) rfl (l' := #[.val (.ref o0), .val (.int p1), .val (.int (16 : Int32)), .val (.int p1), .val (.int (p1 - (16 : Int32))), .unset]) rfl k) ?_
  refine go _ (T2.setTop (mkF m 19 #[.val (.ref o0), .val (.int p1), .val (.int (16 : Int32)), .val (.int p1), .val (.int (p1 - (16 : Int32))), .unset] [(.int (16 : Int32))])) (fun t k => XS.iloadN X2.here hx rfl (hb hby d33_18) rfl k) ?_
  refine go _ (T2.setTop (mkF m 21 #[.val (.ref o0), .val (.int p1), .val (.int (16 : Int32)), .val (.int p1), .val (.int (p1 - (16 : Int32))), .unset] [(.int (p1 - (16 : Int32))), (.int (16 : Int32))])) (fun t k => XS.iload X2.here hx rfl (hb hby d33_19) rfl k) ?_
  refine go _ (T2.setTop (mkF m 22 #[.val (.ref o0), .val (.int p1), .val (.int (16 : Int32)), .val (.int p1), .val (.int (p1 - (16 : Int32))), .unset] [(.int (16 : Int32)), (.int (p1 - (16 : Int32))), (.int (16 : Int32))])) (fun t k => XS.iloadN X2.here hx rfl (hb hby d33_21) rfl k) ?_
  refine go _ (T2.setTop (mkF m 23 #[.val (.ref o0), .val (.int p1), .val (.int (16 : Int32)), .val (.int p1), .val (.int (p1 - (16 : Int32))), .unset] [(.int (2 : Int32)), (.int (16 : Int32)), (.int (p1 - (16 : Int32))), (.int (16 : Int32))])) (fun t k => XS.iconst X2.here hx rfl (hb hby d33_22) k) ?_
  refine go _ (T2.setTop (mkF m 24 #[.val (.ref o0), .val (.int p1), .val (.int (16 : Int32)), .val (.int p1), .val (.int (p1 - (16 : Int32))), .unset] [(.ref o0), (.int (2 : Int32)), (.int (16 : Int32)), (.int (p1 - (16 : Int32))), (.int (16 : Int32))])) (fun t k => XS.aloadN X2.here hx rfl (hb hby d33_23) rfl rfl k) ?_
  obtain ⟨T3, X3, e3, st3⟩ := getF X2 hx hZ hown (host := "") (Or.inl (hw _ (List.mem_of_getElem? (i := 24) rfl))) Via.refl e2 QC (g := (mkF m 24 #[.val (.ref o0), .val (.int p1), .val (.int (16 : Int32)), .val (.int p1), .val (.int (p1 - (16 : Int32))), .unset] [(.ref o0), (.int (2 : Int32)), (.int (16 : Int32)), (.int (p1 - (16 : Int32))), (.int (16 : Int32))])) rfl rfl (hb hby d33_24)
  refine go _ (T3.setTop (mkF m 27 #[.val (.ref o0), .val (.int p1), .val (.int (16 : Int32)), .val (.int p1), .val (.int (p1 - (16 : Int32))), .unset] [(.int (0 : Int32)), (.int (2 : Int32)), (.int (16 : Int32)), (.int (p1 - (16 : Int32))), (.int (16 : Int32))])) st3 ?_
  refine go _ (T3.setTop (mkF m 28 #[.val (.ref o0), .val (.int p1), .val (.int (16 : Int32)), .val (.int p1), .val (.int (p1 - (16 : Int32))), .unset] [(.int ((2 : Int32) <<< ((0 : Int32) &&& 31))), (.int (16 : Int32)), (.int (p1 - (16 : Int32))), (.int (16 : Int32))])) (fun t k => XS.ishl X3.here hx rfl (hb hby d33_27) rfl k) ?_
  rw [own_sh0l]
  refine go _ (T3.setTop (mkF m 29 #[.val (.ref o0), .val (.int p1), .val (.int (16 : Int32)), .val (.int p1), .val (.int (p1 - (16 : Int32))), .unset] [(.int ((16 : Int32) + (2 : Int32))), (.int (p1 - (16 : Int32))), (.int (16 : Int32))])) (fun t k => XS.iadd X3.here hx rfl (hb hby d33_28) rfl k) ?_
  rw [own_18]
  obtain ⟨_, _, ⟨T4, L4, k4, n4⟩, -, X4, ⟨Lc4, hQ4, l4, y4, z4⟩, st4⟩ := Jvm.LawKit.callS X3 hx (y := (⟨"jdk/internal/util/ArraysSupport", "newLength", "(III)I"⟩ : MethodName)) hown (mvT hZ (hw _ (List.mem_of_getElem? (i := 177) rfl))) (mvT hZ (hw _ (List.mem_of_getElem? (i := 178) rfl))) (mvT hZ (hw _ (List.mem_of_getElem? (i := 179) rfl))) (mvT hZ (hw _ (List.mem_of_getElem? (i := 180) rfl))) (by decide) (backOf (W := 0) (rm34 l Z a0 hw [] (16 : Int32) (p1 - (16 : Int32)) (18 : Int32) 16 (mc - 16) 18 h0 n0 Z0 (by decide) (own_subn Pp (by decide) (by omega) (by omega)) (by decide) (by decide) (by omega)) hZ (hw _ (List.mem_of_getElem? (i := 180) rfl)) (hw _ (List.mem_of_getElem? (i := 179) rfl)) (by decide) (by decide)) (g := (mkF m 29 #[.val (.ref o0), .val (.int p1), .val (.int (16 : Int32)), .val (.int p1), .val (.int (p1 - (16 : Int32))), .unset] [(.int (18 : Int32)), (.int (p1 - (16 : Int32))), (.int (16 : Int32))])) rfl (by rw [hml]; rfl) (argsL := [(.int (16 : Int32)), (.int (p1 - (16 : Int32))), (.int (18 : Int32))]) (rest := []) (lenOf own_pd_4 rfl) rfl (by show 2 * 0 + _ ≤ _; exact Nat.le_of_eq rfl) (hb hby d33_29) (fun _ _ => ⟨rfl, e3, (by decide : 0 + 0 ≤ _), (by decide : 0 + 0 ≤ _)⟩)
  dsimp only [Pt.U, Pt.locs, Pt.cells, Pt.slots] at X4 l4 y4 z4 st4 hQ4
  subst l4 y4 z4
  obtain ⟨rfl, Nq4, eq4⟩ := hQ4
  have N4 := Fr.app N0 Nq4
  refine go _ (T4.setTop (mkF m 32 #[.val (.ref o0), .val (.int p1), .val (.int (16 : Int32)), .val (.int p1), .val (.int (p1 - (16 : Int32))), .unset] [(.int (Int32.ofNat (16 + max (mc - 16) 18)))])) st4 ?_
  refine go _ (T4.setTop (mkF m 34 #[.val (.ref o0), .val (.int p1), .val (.int (16 : Int32)), .val (.int p1), .val (.int (p1 - (16 : Int32))), .val (.int (Int32.ofNat (16 + max (mc - 16) 18)))] [])) (fun t k => XS.istore X4.here hx rfl (hb hby d33_32) rfl (l' := #[.val (.ref o0), .val (.int p1), .val (.int (16 : Int32)), .val (.int p1), .val (.int (p1 - (16 : Int32))), .val (.int (Int32.ofNat (16 + max (mc - 16) 18)))]) rfl k) ?_
  refine go _ (T4.setTop (mkF m 36 #[.val (.ref o0), .val (.int p1), .val (.int (16 : Int32)), .val (.int p1), .val (.int (p1 - (16 : Int32))), .val (.int (Int32.ofNat (16 + max (mc - 16) 18)))] [(.int (Int32.ofNat (16 + max (mc - 16) 18)))])) (fun t k => XS.iload X4.here hx rfl (hb hby d33_34) rfl k) ?_
  refine go _ (T4.setTop (mkF m 38 #[.val (.ref o0), .val (.int p1), .val (.int (16 : Int32)), .val (.int p1), .val (.int (p1 - (16 : Int32))), .val (.int (Int32.ofNat (16 + max (mc - 16) 18)))] [(.int (2147483647 : Int32)), (.int (Int32.ofNat (16 + max (mc - 16) 18)))])) (fun t k => X4.ldcInt hx hown (mvT hZ (hw _ (List.mem_of_getElem? (i := 185) rfl))) (g := (mkF m 36 #[.val (.ref o0), .val (.int p1), .val (.int (16 : Int32)), .val (.int p1), .val (.int (p1 - (16 : Int32))), .val (.int (Int32.ofNat (16 + max (mc - 16) 18)))] [(.int (Int32.ofNat (16 + max (mc - 16) 18)))])) rfl (hb hby d33_36) _ k) ?_
  have hc38 : ¬ ((Int32.ofNat (16 + max (mc - 16) 18)) = (2147483647 : Int32)) := by rw [own_eqn (own_n32 (n := 16 + max (mc - 16) 18) (by omega)) (n := 2147483647) (by decide)]; omega
  refine go _ (T4.setTop (mkF m 51 #[.val (.ref o0), .val (.int p1), .val (.int (16 : Int32)), .val (.int p1), .val (.int (p1 - (16 : Int32))), .val (.int (Int32.ofNat (16 + max (mc - 16) 18)))] [])) (fun t k => XS.icmpYes X4.here hx rfl (pc0 := 38) (pc' := 51) rfl (hb hby d33_38) rfl (feq hc38).2 (by decide) (by decide) k) ?_
  refine go _ (T4.setTop (mkF m 53 #[.val (.ref o0), .val (.int p1), .val (.int (16 : Int32)), .val (.int p1), .val (.int (p1 - (16 : Int32))), .val (.int (Int32.ofNat (16 + max (mc - 16) 18)))] [(.int (Int32.ofNat (16 + max (mc - 16) 18)))])) (fun t k => XS.iload X4.here hx rfl (hb hby d33_51) rfl k) ?_
  refine go _ (T4.setTop (mkF m 54 #[.val (.ref o0), .val (.int p1), .val (.int (16 : Int32)), .val (.int p1), .val (.int (p1 - (16 : Int32))), .val (.int (Int32.ofNat (16 + max (mc - 16) 18)))] [(.ref o0), (.int (Int32.ofNat (16 + max (mc - 16) 18)))])) (fun t k => XS.aloadN X4.here hx rfl (hb hby d33_53) rfl rfl k) ?_
  obtain ⟨T5, X5, e5, st5⟩ := getF X4 hx hZ hown (host := "") (Or.inl (hw _ (List.mem_of_getElem? (i := 24) rfl))) Via.refl eq4 QC (g := (mkF m 54 #[.val (.ref o0), .val (.int p1), .val (.int (16 : Int32)), .val (.int p1), .val (.int (p1 - (16 : Int32))), .val (.int (Int32.ofNat (16 + max (mc - 16) 18)))] [(.ref o0), (.int (Int32.ofNat (16 + max (mc - 16) 18)))])) rfl rfl (hb hby d33_54)
  refine go _ (T5.setTop (mkF m 57 #[.val (.ref o0), .val (.int p1), .val (.int (16 : Int32)), .val (.int p1), .val (.int (p1 - (16 : Int32))), .val (.int (Int32.ofNat (16 + max (mc - 16) 18)))] [(.int (0 : Int32)), (.int (Int32.ofNat (16 + max (mc - 16) 18)))])) st5 ?_
  refine go _ (T5.setTop (mkF m 58 #[.val (.ref o0), .val (.int p1), .val (.int (16 : Int32)), .val (.int p1), .val (.int (p1 - (16 : Int32))), .val (.int (Int32.ofNat (16 + max (mc - 16) 18)))] [(.int ((Int32.ofNat (16 + max (mc - 16) 18)) >>> ((0 : Int32) &&& 31)))])) (fun t k => XS.ishr X5.here hx rfl (hb hby d33_57) rfl k) ?_
  rw [own_sh0r]
  refine fin (some (.int (Int32.ofNat (16 + max (mc - 16) 18)))) (mkF m 58 #[.val (.ref o0), .val (.int p1), .val (.int (16 : Int32)), .val (.int p1), .val (.int (p1 - (16 : Int32))), .val (.int (Int32.ofNat (16 + max (mc - 16) 18)))] [(.int (Int32.ofNat (16 + max (mc - 16) 18)))]) X5 (fun h => by cases h) (fun fs hr => retOut X5 hx (t := .int) hret rfl (Or.inl ⟨rfl, by simp, _, rfl⟩) (hb hby d33_58) hr) ?_ (by decide) (by decide)
  try rw [e5]
  exact ⟨by rw [show 16 + max (mc - 16) 18 = max mc 34 by omega], N4, rfl⟩
theorem own_ef9_a (m : MethodId) (o0 : Addr) (p1 : Int32) : entryFrame m #[(.ref o0), (.int p1)] 3 = mkF m 0 #[.val (.ref o0), .val (.int p1), .unset] [] := by first | (simp [entryFrame, mkF, argsToLocals, Value.category]; done) | rfl
theorem own_pn9 : plainName "java/lang/AbstractStringBuilder" = true := by first | (simp [plainName, overriddenIn]; done) | decide +kernel
theorem d9_0 : decode jdk_68_method_9_code 0 = .ok (.aload_n 0, 1) := by decide +kernel
theorem d9_1 : decode jdk_68_method_9_code 1 = .ok (.getfield 15, 3) := by decide +kernel
theorem d9_4 : decode jdk_68_method_9_code 4 = .ok (.arraylength, 1) := by decide +kernel
theorem d9_5 : decode jdk_68_method_9_code 5 = .ok (.aload_n 0, 1) := by decide +kernel
theorem d9_6 : decode jdk_68_method_9_code 6 = .ok (.getfield 22, 3) := by decide +kernel
theorem d9_9 : decode jdk_68_method_9_code 9 = .ok (.ishr, 1) := by decide +kernel
theorem d9_10 : decode jdk_68_method_9_code 10 = .ok (.istore_n 2, 1) := by decide +kernel
theorem d9_11 : decode jdk_68_method_9_code 11 = .ok (.iload_n 1, 1) := by decide +kernel
theorem d9_12 : decode jdk_68_method_9_code 12 = .ok (.iload_n 2, 1) := by decide +kernel
theorem d9_13 : decode jdk_68_method_9_code 13 = .ok (.isub, 1) := by decide +kernel
theorem d9_14 : decode jdk_68_method_9_code 14 = .ok (.ifCond .le 24, 3) := by decide +kernel
theorem d9_38 : decode jdk_68_method_9_code 38 = .ok (.return_, 1) := by decide +kernel
def own_Q9_a (Z : State) (o0 : Addr) (p1 : Int32) (ob : Addr) (g : Nat → Value) (mc : Nat) (h0 : Heap) (n0 : Nat) (v : Option Value) (h : Heap) (L : List Loc) : Prop := v = none ∧ Fr n0 L ∧ h = h0
set_option maxRecDepth 65536 in
set_option maxHeartbeats 40000000 in
theorem rm9_a (l : Launch) (Z : State) (a0 : Array Value) (hw : ∀ d ∈ tables_1, d.before a0 Z = true) (ws : List Jvm.Cond) (o0 : Addr) (p1 : Int32) (ob : Addr) (g : Nat → Value) (mc : Nat) (h0 : Heap) (n0 : Nat) (Z0 : n0 ≤ h0.size) (QE : Exa Z h0 o0 "java/lang/StringBuilder") (QC : Fld Z h0 o0 "java/lang/AbstractStringBuilder" "coder" "B" (.int (0 : Int32))) (QV : Fld Z h0 o0 "java/lang/AbstractStringBuilder" "value" "[B" (.ref ob)) (QA : own_Av Z h0 ob .byte 16 g) (QX : Exa Z h0 ob "[B") (Pp : p1.toInt = (mc : Int)) (B1 : mc ≤ 16) (B2 : mc ≤ 200) :
    MetFree l (⟨"java/lang/AbstractStringBuilder", "ensureCapacityInternal", "(I)V"⟩ : MethodName) (head1 (Jvm.Cond.code (⟨"java/lang/AbstractStringBuilder", "ensureCapacityInternal", "(I)V"⟩ : MethodName) jdk_68_method_9_code 3 none :: ws) ({ frames := 0, cells := 0, slots := 0, locals := 0 } : Room)) (fun a U => a = #[(.ref o0), (.int p1)] ∧ Z.Warmed39 U.vm ∧ U.heap = h0) (fun _ _ _ _ _ => True) (fun _ U o U' => ∃ v L, o = .returned v ∧ own_Q9_a Z o0 p1 ob g mc h0 n0 v U'.heap L ∧ FrameEnd U o U' L ({ frames := 0, cells := 0, slots := 0, locals := 0 } : Room).cells ({ frames := 0, cells := 0, slots := 0, locals := 0 } : Room).slots) := by
  refine own_metfree (Q := own_Q9_a Z o0 p1 ob g mc h0 n0) (plainFor_of_name own_pn9) ?_
  intro p e s m below meth c s₁ X0 hx hby hml hret hown hnm hZ e0 G go fin
  have N0 := Fr.nil n0
  refine go _ (s₁.setTop (mkF m 0 #[.val (.ref o0), .val (.int p1), .unset] [])) (fun t k => castTop (own_ef9_a m o0 p1) k) ?_
  refine go _ (s₁.setTop (mkF m 1 #[.val (.ref o0), .val (.int p1), .unset] [(.ref o0)])) (fun t k => XS.aloadN X0.here hx rfl (hb hby d9_0) rfl rfl k) ?_
  obtain ⟨T1, X1, e1, st1⟩ := getF X0 hx hZ hown (host := "") (Or.inl (hw _ (List.mem_of_getElem? (i := 22) rfl))) Via.refl e0 QV (g := (mkF m 1 #[.val (.ref o0), .val (.int p1), .unset] [(.ref o0)])) rfl rfl (hb hby d9_1)
  refine go _ (T1.setTop (mkF m 4 #[.val (.ref o0), .val (.int p1), .unset] [(.ref ob)])) st1 ?_
  refine go _ (T1.setTop (mkF m 5 #[.val (.ref o0), .val (.int p1), .unset] [(.int (16 : Int32))])) (fun t k => own_len X1 hx hZ e1 QA (by decide) (g := (mkF m 4 #[.val (.ref o0), .val (.int p1), .unset] [(.ref ob)])) rfl rfl (hb hby d9_4) _ k) ?_
  refine go _ (T1.setTop (mkF m 6 #[.val (.ref o0), .val (.int p1), .unset] [(.ref o0), (.int (16 : Int32))])) (fun t k => XS.aloadN X1.here hx rfl (hb hby d9_5) rfl rfl k) ?_
  obtain ⟨T2, X2, e2, st2⟩ := getF X1 hx hZ hown (host := "") (Or.inl (hw _ (List.mem_of_getElem? (i := 24) rfl))) Via.refl e1 QC (g := (mkF m 6 #[.val (.ref o0), .val (.int p1), .unset] [(.ref o0), (.int (16 : Int32))])) rfl rfl (hb hby d9_6)
  refine go _ (T2.setTop (mkF m 9 #[.val (.ref o0), .val (.int p1), .unset] [(.int (0 : Int32)), (.int (16 : Int32))])) st2 ?_
  refine go _ (T2.setTop (mkF m 10 #[.val (.ref o0), .val (.int p1), .unset] [(.int ((16 : Int32) >>> ((0 : Int32) &&& 31)))])) (fun t k => XS.ishr X2.here hx rfl (hb hby d9_9) rfl k) ?_
  rw [own_sh0r]
  refine go _ (T2.setTop (mkF m 11 #[.val (.ref o0), .val (.int p1), .val (.int (16 : Int32))] [])) (fun t k => XS.istoreN X2.here hx rfl (hb hby d9_10) rfl (l' := #[.val (.ref o0), .val (.int p1), .val (.int (16 : Int32))]) rfl k) ?_
  refine go _ (T2.setTop (mkF m 12 #[.val (.ref o0), .val (.int p1), .val (.int (16 : Int32))] [(.int p1)])) (fun t k => XS.iloadN X2.here hx rfl (hb hby d9_11) rfl k) ?_
  refine go _ (T2.setTop (mkF m 13 #[.val (.ref o0), .val (.int p1), .val (.int (16 : Int32))] [(.int (16 : Int32)), (.int p1)])) (fun t k => XS.iloadN X2.here hx rfl (hb hby d9_12) rfl k) ?_
  refine go _ (T2.setTop (mkF m 14 #[.val (.ref o0), .val (.int p1), .val (.int (16 : Int32))] [(.int (p1 - (16 : Int32)))])) (fun t k => XS.isub X2.here hx rfl (hb hby d9_13) rfl k) ?_
  have hc14 : ¬ ((0 : Int32) < (p1 - (16 : Int32))) := by rw [own_capn Pp (by omega)]; omega
  refine go _ (T2.setTop (mkF m 38 #[.val (.ref o0), .val (.int p1), .val (.int (16 : Int32))] [])) (fun t k => XS.ifYes X2.here hx rfl (pc0 := 14) (pc' := 38) rfl (hb hby d9_14) rfl ((if0 _ _).trans (flt hc14).2.2.2) (by decide) (by decide) k) ?_
  refine fin (none) (mkF m 38 #[.val (.ref o0), .val (.int p1), .val (.int (16 : Int32))] []) X2 (fun _ => rfl) (fun fs hr => X2.returnOut hx hret (hb hby d9_38) hr) ?_ (by decide) (by decide)
  try rw [e2]
  exact ⟨rfl, N0, rfl⟩
theorem own_ef9_b (m : MethodId) (o0 : Addr) (p1 : Int32) : entryFrame m #[(.ref o0), (.int p1)] 3 = mkF m 0 #[.val (.ref o0), .val (.int p1), .unset] [] := by first | (simp [entryFrame, mkF, argsToLocals, Value.category]; done) | rfl
theorem d9_17 : decode jdk_68_method_9_code 17 = .ok (.aload_n 0, 1) := by decide +kernel
theorem d9_18 : decode jdk_68_method_9_code 18 = .ok (.aload_n 0, 1) := by decide +kernel
theorem d9_19 : decode jdk_68_method_9_code 19 = .ok (.getfield 15, 3) := by decide +kernel
theorem d9_22 : decode jdk_68_method_9_code 22 = .ok (.aload_n 0, 1) := by decide +kernel
theorem d9_23 : decode jdk_68_method_9_code 23 = .ok (.iload_n 1, 1) := by decide +kernel
theorem d9_24 : decode jdk_68_method_9_code 24 = .ok (.invokevirtual 104, 3) := by decide +kernel
theorem own_pd_5 : parseMethodDescriptor "(I)I" = some ⟨[.int], some .int⟩ := by decide +kernel
theorem d9_27 : decode jdk_68_method_9_code 27 = .ok (.aload_n 0, 1) := by decide +kernel
theorem d9_28 : decode jdk_68_method_9_code 28 = .ok (.getfield 22, 3) := by decide +kernel
theorem d9_31 : decode jdk_68_method_9_code 31 = .ok (.ishl, 1) := by decide +kernel
theorem d9_32 : decode jdk_68_method_9_code 32 = .ok (.invokestatic 108, 3) := by decide +kernel
theorem own_pd_6 : parseMethodDescriptor "([BI)[B" = some ⟨[(.array .byte), .int], some (.array .byte)⟩ := by decide +kernel
theorem d9_35 : decode jdk_68_method_9_code 35 = .ok (.putfield 15, 3) := by decide +kernel
def own_Q9_b (Z : State) (o0 : Addr) (p1 : Int32) (ob : Addr) (g : Nat → Value) (mc : Nat) (vc : Int32) (h0 : Heap) (n0 : Nat) (v : Option Value) (h : Heap) (L : List Loc) : Prop := v = none ∧ Fr n0 L ∧ Keep h0 h [o0] ∧ Exa Z h o0 "java/lang/StringBuilder" ∧ Fld Z h o0 "java/lang/AbstractStringBuilder" "coder" "B" (.int (0 : Int32)) ∧ Fld Z h o0 "java/lang/AbstractStringBuilder" "count" "I" (.int vc) ∧ ∃ (nb : Addr) (ff : Nat → Value), h0.size ≤ nb ∧ Fld Z h o0 "java/lang/AbstractStringBuilder" "value" "[B" (.ref nb) ∧ Exa Z h nb "[B" ∧ own_Av Z h nb .byte (max mc 34) ff ∧ ∀ i, i < 16 → ff i = g i
set_option maxRecDepth 65536 in
set_option maxHeartbeats 40000000 in
theorem rm9_b (l : Launch) (Z : State) (a0 : Array Value) (hw : ∀ d ∈ tables_1, d.before a0 Z = true) (ws : List Jvm.Cond) (o0 : Addr) (p1 : Int32) (ob : Addr) (g : Nat → Value) (mc : Nat) (vc : Int32) (h0 : Heap) (n0 : Nat) (Z0 : n0 ≤ h0.size) (QE : Exa Z h0 o0 "java/lang/StringBuilder") (QC : Fld Z h0 o0 "java/lang/AbstractStringBuilder" "coder" "B" (.int (0 : Int32))) (QV : Fld Z h0 o0 "java/lang/AbstractStringBuilder" "value" "[B" (.ref ob)) (QA : own_Av Z h0 ob .byte 16 g) (QX : Exa Z h0 ob "[B") (QN : Fld Z h0 o0 "java/lang/AbstractStringBuilder" "count" "I" (.int vc)) (Pp : p1.toInt = (mc : Int)) (B1 : 16 < mc) (B2 : mc ≤ 200) (Pg : n0 ≤ o0) (Pne : o0 ≠ ob) :
    MetFree l (⟨"java/lang/AbstractStringBuilder", "ensureCapacityInternal", "(I)V"⟩ : MethodName) (head1 (Jvm.Cond.code (⟨"java/lang/AbstractStringBuilder", "ensureCapacityInternal", "(I)V"⟩ : MethodName) jdk_68_method_9_code 3 none :: ws) ({ frames := 3, cells := 1, slots := 200, locals := 48 } : Room)) (fun a U => a = #[(.ref o0), (.int p1)] ∧ Z.Warmed39 U.vm ∧ U.heap = h0) (fun _ _ _ _ _ => True) (fun _ U o U' => ∃ v L, o = .returned v ∧ own_Q9_b Z o0 p1 ob g mc vc h0 n0 v U'.heap L ∧ FrameEnd U o U' L ({ frames := 3, cells := 1, slots := 200, locals := 48 } : Room).cells ({ frames := 3, cells := 1, slots := 200, locals := 48 } : Room).slots) := by
  refine own_metfree (Q := own_Q9_b Z o0 p1 ob g mc vc h0 n0) (plainFor_of_name own_pn9) ?_
  intro p e s m below meth c s₁ X0 hx hby hml hret hown hnm hZ e0 G go fin
  have N0 := Fr.nil n0
  refine go _ (s₁.setTop (mkF m 0 #[.val (.ref o0), .val (.int p1), .unset] [])) (fun t k => castTop (own_ef9_b m o0 p1) k) ?_
  refine go _ (s₁.setTop (mkF m 1 #[.val (.ref o0), .val (.int p1), .unset] [(.ref o0)])) (fun t k => XS.aloadN X0.here hx rfl (hb hby d9_0) rfl rfl k) ?_
  obtain ⟨T1, X1, e1, st1⟩ := getF X0 hx hZ hown (host := "") (Or.inl (hw _ (List.mem_of_getElem? (i := 22) rfl))) Via.refl e0 QV (g := (mkF m 1 #[.val (.ref o0), .val (.int p1), .unset] [(.ref o0)])) rfl rfl (hb hby d9_1)
  refine go _ (T1.setTop (mkF m 4 #[.val (.ref o0), .val (.int p1), .unset] [(.ref ob)])) st1 ?_
  refine go _ (T1.setTop (mkF m 5 #[.val (.ref o0), .val (.int p1), .unset] [(.int (16 : Int32))])) (fun t k => own_len X1 hx hZ e1 QA (by decide) (g := (mkF m 4 #[.val (.ref o0), .val (.int p1), .unset] [(.ref ob)])) rfl rfl (hb hby d9_4) _ k) ?_
  refine go _ (T1.setTop (mkF m 6 #[.val (.ref o0), .val (.int p1), .unset] [(.ref o0), (.int (16 : Int32))])) (fun t k => XS.aloadN X1.here hx rfl (hb hby d9_5) rfl rfl k) ?_
  obtain ⟨T2, X2, e2, st2⟩ := getF X1 hx hZ hown (host := "") (Or.inl (hw _ (List.mem_of_getElem? (i := 24) rfl))) Via.refl e1 QC (g := (mkF m 6 #[.val (.ref o0), .val (.int p1), .unset] [(.ref o0), (.int (16 : Int32))])) rfl rfl (hb hby d9_6)
  refine go _ (T2.setTop (mkF m 9 #[.val (.ref o0), .val (.int p1), .unset] [(.int (0 : Int32)), (.int (16 : Int32))])) st2 ?_
  refine go _ (T2.setTop (mkF m 10 #[.val (.ref o0), .val (.int p1), .unset] [(.int ((16 : Int32) >>> ((0 : Int32) &&& 31)))])) (fun t k => XS.ishr X2.here hx rfl (hb hby d9_9) rfl k) ?_
  rw [own_sh0r]
  refine go _ (T2.setTop (mkF m 11 #[.val (.ref o0), .val (.int p1), .val (.int (16 : Int32))] [])) (fun t k => XS.istoreN X2.here hx rfl (hb hby d9_10) rfl (l' := #[.val (.ref o0), .val (.int p1), .val (.int (16 : Int32))]) rfl k) ?_
  refine go _ (T2.setTop (mkF m 12 #[.val (.ref o0), .val (.int p1), .val (.int (16 : Int32))] [(.int p1)])) (fun t k => XS.iloadN X2.here hx rfl (hb hby d9_11) rfl k) ?_
  refine go _ (T2.setTop (mkF m 13 #[.val (.ref o0), .val (.int p1), .val (.int (16 : Int32))] [(.int (16 : Int32)), (.int p1)])) (fun t k => XS.iloadN X2.here hx rfl (hb hby d9_12) rfl k) ?_
  refine go _ (T2.setTop (mkF m 14 #[.val (.ref o0), .val (.int p1), .val (.int (16 : Int32))] [(.int (p1 - (16 : Int32)))])) (fun t k => XS.isub X2.here hx rfl (hb hby d9_13) rfl k) ?_
  have hc14 : (0 : Int32) < (p1 - (16 : Int32)) := by rw [own_capn Pp (by omega)]; omega
  refine go _ (T2.setTop (mkF m 17 #[.val (.ref o0), .val (.int p1), .val (.int (16 : Int32))] [])) (fun t k => XS.ifNo X2.here hx rfl (hb hby d9_14) rfl ((if0 _ _).trans (tlt hc14).2.2.2) k) ?_
  refine go _ (T2.setTop (mkF m 18 #[.val (.ref o0), .val (.int p1), .val (.int (16 : Int32))] [(.ref o0)])) (fun t k => XS.aloadN X2.here hx rfl (hb hby d9_17) rfl rfl k) ?_
  refine go _ (T2.setTop (mkF m 19 #[.val (.ref o0), .val (.int p1), .val (.int (16 : Int32))] [(.ref o0), (.ref o0)])) (fun t k => XS.aloadN X2.here hx rfl (hb hby d9_18) rfl rfl k) ?_
  obtain ⟨T3, X3, e3, st3⟩ := getF X2 hx hZ hown (host := "") (Or.inl (hw _ (List.mem_of_getElem? (i := 22) rfl))) Via.refl e2 QV (g := (mkF m 19 #[.val (.ref o0), .val (.int p1), .val (.int (16 : Int32))] [(.ref o0), (.ref o0)])) rfl rfl (hb hby d9_19)
  refine go _ (T3.setTop (mkF m 22 #[.val (.ref o0), .val (.int p1), .val (.int (16 : Int32))] [(.ref ob), (.ref o0)])) st3 ?_
  refine go _ (T3.setTop (mkF m 23 #[.val (.ref o0), .val (.int p1), .val (.int (16 : Int32))] [(.ref o0), (.ref ob), (.ref o0)])) (fun t k => XS.aloadN X3.here hx rfl (hb hby d9_22) rfl rfl k) ?_
  refine go _ (T3.setTop (mkF m 24 #[.val (.ref o0), .val (.int p1), .val (.int (16 : Int32))] [(.int p1), (.ref o0), (.ref ob), (.ref o0)])) (fun t k => XS.iloadN X3.here hx rfl (hb hby d9_23) rfl k) ?_
  obtain ⟨cq4, kq4, q4a, q4b, q4c⟩ := isOf hZ e3 QE
  obtain ⟨_, _, ⟨T4, L4, k4, n4⟩, -, X4, ⟨Lc4, hQ4, l4, y4, z4⟩, st4⟩ := X3.virtualBack hx (y := (⟨"java/lang/AbstractStringBuilder", "newCapacity", "(I)I"⟩ : MethodName)) (z := (⟨"java/lang/AbstractStringBuilder", "newCapacity", "(I)I"⟩ : MethodName)) hown (mvT hZ (hw _ (List.mem_of_getElem? (i := 172) rfl))) (mvT hZ (own_decl (hw _ (List.mem_of_getElem? (i := 173) rfl)) (hw _ (List.mem_of_getElem? (i := 176) rfl)))) (notFace_of_selects (args := #[]) (mvT hZ (hw _ (List.mem_of_getElem? (i := 175) rfl)))) (mvT hZ (hw _ (List.mem_of_getElem? (i := 175) rfl))) (mvT hZ (hw _ (List.mem_of_getElem? (i := 173) rfl))) (by decide) (backOf (W := 2) (rm33 l Z a0 hw [] o0 p1 ob g mc h0 n0 Z0 QE QC QV QA QX Pp B1 B2) hZ (hw _ (List.mem_of_getElem? (i := 176) rfl)) (hw _ (List.mem_of_getElem? (i := 14) rfl)) (by decide) (by decide)) q4a q4c (g := (mkF m 24 #[.val (.ref o0), .val (.int p1), .val (.int (16 : Int32))] [(.int p1), (.ref o0), (.ref ob), (.ref o0)])) rfl (by rw [hml]; rfl) (Steps.refl _) (argsL := [(.int p1)]) (rest := [(.ref ob), (.ref o0)]) (lenOf own_pd_5 rfl) rfl (by show 2 * 0 + _ ≤ _; exact Nat.le_of_eq rfl) (hb hby d9_24) (fun _ _ => ⟨rfl, e3, (by decide : 0 + 0 ≤ _), (by decide : 0 + 0 ≤ _)⟩)
  dsimp only [Pt.U, Pt.locs, Pt.cells, Pt.slots] at X4 l4 y4 z4 st4 hQ4
  subst l4 y4 z4
  obtain ⟨rfl, Nq4, eq4⟩ := hQ4
  have N4 := Fr.app N0 Nq4
  refine go _ (T4.setTop (mkF m 27 #[.val (.ref o0), .val (.int p1), .val (.int (16 : Int32))] [(.int (Int32.ofNat (max mc 34))), (.ref ob), (.ref o0)])) (fun t k => st4.trans k) ?_
  refine go _ (T4.setTop (mkF m 28 #[.val (.ref o0), .val (.int p1), .val (.int (16 : Int32))] [(.ref o0), (.int (Int32.ofNat (max mc 34))), (.ref ob), (.ref o0)])) (fun t k => XS.aloadN X4.here hx rfl (hb hby d9_27) rfl rfl k) ?_
  obtain ⟨T5, X5, e5, st5⟩ := getF X4 hx hZ hown (host := "") (Or.inl (hw _ (List.mem_of_getElem? (i := 24) rfl))) Via.refl eq4 QC (g := (mkF m 28 #[.val (.ref o0), .val (.int p1), .val (.int (16 : Int32))] [(.ref o0), (.int (Int32.ofNat (max mc 34))), (.ref ob), (.ref o0)])) rfl rfl (hb hby d9_28)
  refine go _ (T5.setTop (mkF m 31 #[.val (.ref o0), .val (.int p1), .val (.int (16 : Int32))] [(.int (0 : Int32)), (.int (Int32.ofNat (max mc 34))), (.ref ob), (.ref o0)])) st5 ?_
  refine go _ (T5.setTop (mkF m 32 #[.val (.ref o0), .val (.int p1), .val (.int (16 : Int32))] [(.int ((Int32.ofNat (max mc 34)) <<< ((0 : Int32) &&& 31))), (.ref ob), (.ref o0)])) (fun t k => XS.ishl X5.here hx rfl (hb hby d9_31) rfl k) ?_
  rw [own_sh0l]
  obtain ⟨_, _, ⟨T6, L6, k6, n6⟩, -, X6, ⟨Lc6, hQ6, l6, y6, z6⟩, st6⟩ := Jvm.LawKit.callS X5 hx (y := (⟨"java/util/Arrays", "copyOf", "([BI)[B"⟩ : MethodName)) hown (mvT hZ (hw _ (List.mem_of_getElem? (i := 186) rfl))) (mvT hZ (hw _ (List.mem_of_getElem? (i := 187) rfl))) (mvT hZ (hw _ (List.mem_of_getElem? (i := 123) rfl))) (mvT hZ (hw _ (List.mem_of_getElem? (i := 188) rfl))) (by decide) (backOf (W := 1) (rm36 l Z a0 hw [] ob (Int32.ofNat (max mc 34)) 16 (max mc 34) g h0 n0 Z0 QA QX (own_n32 (by omega)) (by omega) (by decide)) hZ (hw _ (List.mem_of_getElem? (i := 188) rfl)) (hw _ (List.mem_of_getElem? (i := 123) rfl)) (by decide) (by decide)) (g := (mkF m 32 #[.val (.ref o0), .val (.int p1), .val (.int (16 : Int32))] [(.int (Int32.ofNat (max mc 34))), (.ref ob), (.ref o0)])) rfl (by rw [hml]; rfl) (argsL := [(.ref ob), (.int (Int32.ofNat (max mc 34)))]) (rest := [(.ref o0)]) (lenOf own_pd_6 rfl) rfl (by show 2 * 0 + _ ≤ _; exact Nat.le_of_eq rfl) (hb hby d9_32) (fun _ _ => ⟨rfl, e5, (by decide : 0 + 1 ≤ _), (by decide : 0 + 200 ≤ _)⟩)
  dsimp only [Pt.U, Pt.locs, Pt.cells, Pt.slots] at X6 l6 y6 z6 st6 hQ6
  subst l6 y6 z6
  obtain ⟨rr6, rfl, Nq6, sr6, K6, Xr6, fr6, Ar6, ag6⟩ := hQ6
  have N6 := Fr.app N4 Nq6
  have ne7_o0_rr6 : o0 ≠ rr6 := Nat.ne_of_lt (Nat.lt_of_lt_of_le QE.lt sr6)
  have ne8_ob_rr6 : ob ≠ rr6 := Nat.ne_of_lt (Nat.lt_of_lt_of_le QX.lt sr6)
  have sz_rr6 : h0.size ≤ rr6 := sr6
  have g_rr6 : n0 ≤ rr6 := Nat.le_trans Z0 sr6
  refine go _ (T6.setTop (mkF m 35 #[.val (.ref o0), .val (.int p1), .val (.int (16 : Int32))] [(.ref rr6), (.ref o0)])) st6 ?_
  have F9_value_o0 : Fld Z T6.heap o0 "java/lang/AbstractStringBuilder" "value" "[B" (.ref ob) := (QV.keep K6 nin0)
  have E10_o0 : Exa Z T6.heap o0 "java/lang/StringBuilder" := (QE.keep K6)
  obtain ⟨T11, h11, X11, e11, W11, st11⟩ := putF X6 hx hZ hown (host := "") (Or.inl (hw _ (List.mem_of_getElem? (i := 22) rfl))) Via.refl rfl F9_value_o0 E10_o0 (Or.inl (hw _ (List.mem_of_getElem? (i := 23) rfl))) (hw _ (List.mem_of_getElem? (i := 5) rfl)) (ty := (.array .byte)) (by decide) rfl rfl (g := (mkF m 35 #[.val (.ref o0), .val (.int p1), .val (.int (16 : Int32))] [(.ref rr6), (.ref o0)])) rfl rfl (hb hby d9_35)
  have Fw11 : Fld Z h11 o0 "java/lang/AbstractStringBuilder" "value" "[B" (.ref rr6) := F9_value_o0.same W11
  have N11 := Fr.snoc X11 N6 Pg
  refine go _ (T11.setTop (mkF m 38 #[.val (.ref o0), .val (.int p1), .val (.int (16 : Int32))] [])) st11 ?_
  have E12_o0 : Exa Z h11 o0 "java/lang/StringBuilder" := (E10_o0.wr W11)
  have F13_coder_o0 : Fld Z h11 o0 "java/lang/AbstractStringBuilder" "coder" "B" (.int (0 : Int32)) := ((QC.keep K6 nin0).other W11 (Or.inr (slot_ne (Or.inl (hw _ (List.mem_of_getElem? (i := 25) rfl))) (Or.inl (hw _ (List.mem_of_getElem? (i := 23) rfl))) (by decide) (t := .byte) (t' := (.array .byte)) (by decide) (by decide))))
  have F14_count_o0 : Fld Z h11 o0 "java/lang/AbstractStringBuilder" "count" "I" (.int vc) := ((QN.keep K6 nin0).other W11 (Or.inr (slot_ne (Or.inl (hw _ (List.mem_of_getElem? (i := 56) rfl))) (Or.inl (hw _ (List.mem_of_getElem? (i := 23) rfl))) (by decide) (t := .int) (t' := (.array .byte)) (by decide) (by decide))))
  have E15_rr6 : Exa Z h11 rr6 "[B" := (Xr6.wr W11)
  have A16_rr6 : own_Av Z h11 rr6 .byte (max mc 34) fr6 := (Ar6.other W11 (Ne.symm ne7_o0_rr6))
  refine fin (none) (mkF m 38 #[.val (.ref o0), .val (.int p1), .val (.int (16 : Int32))] []) X11 (fun _ => rfl) (fun fs hr => X11.returnOut hx hret (hb hby d9_38) hr) ?_ (by decide) (by decide)
  try rw [e11]
  exact ⟨rfl, N11, (((Keep.refl h0 [o0]).trans K6 all0).wr W11 (Or.inl (List.mem_of_getElem? (i := 0) rfl))), E12_o0, F13_coder_o0, F14_count_o0, rr6, _, sz_rr6, Fw11, E15_rr6, A16_rr6, fun i hi => ag6 i hi (by omega)⟩
theorem own_ef11 (m : MethodId) (o0 : Addr) (o1 : Addr) : entryFrame m #[(.ref o0), (.ref o1)] 2 = mkF m 0 #[.val (.ref o0), .val (.ref o1)] [] := by first | (simp [entryFrame, mkF, argsToLocals, Value.category]; done) | rfl
theorem own_pn11 : plainName "java/lang/AbstractStringBuilder" = true := by first | (simp [plainName, overriddenIn]; done) | decide +kernel
theorem d11_0 : decode jdk_68_method_71_code 0 = .ok (.getstatic 18, 3) := by decide +kernel
theorem d11_3 : decode jdk_68_method_71_code 3 = .ok (.ifCond .eq 18, 3) := by decide +kernel
theorem d11_6 : decode jdk_68_method_71_code 6 = .ok (.aload_n 0, 1) := by decide +kernel
theorem d11_7 : decode jdk_68_method_71_code 7 = .ok (.getfield 22, 3) := by decide +kernel
theorem d11_10 : decode jdk_68_method_71_code 10 = .ok (.aload_n 1, 1) := by decide +kernel
theorem d11_11 : decode jdk_68_method_71_code 11 = .ok (.invokevirtual 40, 3) := by decide +kernel
theorem d11_14 : decode jdk_68_method_71_code 14 = .ok (.if_icmp .eq 7, 3) := by decide +kernel
theorem d11_21 : decode jdk_68_method_71_code 21 = .ok (.return_, 1) := by decide +kernel
def own_Q11 (Z : State) (o0 : Addr) (o1 : Addr) (h0 : Heap) (n0 : Nat) (v : Option Value) (h : Heap) (L : List Loc) : Prop := v = none ∧ Fr n0 L ∧ h = h0
set_option maxRecDepth 65536 in
set_option maxHeartbeats 40000000 in
theorem rm11 (l : Launch) (Z : State) (a0 : Array Value) (hw : ∀ d ∈ tables_1, d.before a0 Z = true) (ws : List Jvm.Cond) (o0 : Addr) (o1 : Addr) (h0 : Heap) (n0 : Nat) (Z0 : n0 ≤ h0.size) (PS : own_St Z n0 h0) (PC : Fld Z h0 o0 "java/lang/AbstractStringBuilder" "coder" "B" (.int (0 : Int32))) (QE : Exa Z h0 o1 "java/lang/String") (QC : Fld Z h0 o1 "java/lang/String" "coder" "B" (.int (0 : Int32))) :
    MetFree l (⟨"java/lang/AbstractStringBuilder", "inflateIfNeededFor", "(Ljava/lang/String;)V"⟩ : MethodName) (head1 (Jvm.Cond.code (⟨"java/lang/AbstractStringBuilder", "inflateIfNeededFor", "(Ljava/lang/String;)V"⟩ : MethodName) jdk_68_method_71_code 2 none :: ws) ({ frames := 1, cells := 0, slots := 0, locals := 13 } : Room)) (fun a U => a = #[(.ref o0), (.ref o1)] ∧ Z.Warmed39 U.vm ∧ U.heap = h0) (fun _ _ _ _ _ => True) (fun _ U o U' => ∃ v L, o = .returned v ∧ own_Q11 Z o0 o1 h0 n0 v U'.heap L ∧ FrameEnd U o U' L ({ frames := 1, cells := 0, slots := 0, locals := 13 } : Room).cells ({ frames := 1, cells := 0, slots := 0, locals := 13 } : Room).slots) := by
  refine own_metfree (Q := own_Q11 Z o0 o1 h0 n0) (plainFor_of_name own_pn11) ?_
  intro p e s m below meth c s₁ X0 hx hby hml hret hown hnm hZ e0 G go fin
  have N0 := Fr.nil n0
  refine go _ (s₁.setTop (mkF m 0 #[.val (.ref o0), .val (.ref o1)] [])) (fun t k => castTop (own_ef11 m o0 o1) k) ?_
  obtain ⟨⟨vz1, hz1, Sz1⟩, -⟩ := (id PS)
  obtain ⟨T1, X1, e1, st1⟩ := getS (host := "") X0 hx hZ hown (hw _ (List.mem_of_getElem? (i := 19) rfl)) Via.refl e0 Sz1.sta (g := (mkF m 0 #[.val (.ref o0), .val (.ref o1)] [])) rfl (hb hby d11_0)
  refine go _ (T1.setTop (mkF m 3 #[.val (.ref o0), .val (.ref o1)] [(.int vz1)])) st1 ?_
  have hc3 : ¬ (vz1 = (0 : Int32)) := by exact hz1
  refine go _ (T1.setTop (mkF m 6 #[.val (.ref o0), .val (.ref o1)] [])) (fun t k => XS.ifNo X1.here hx rfl (hb hby d11_3) rfl ((if0 _ _).trans (feq hc3).1) k) ?_
  refine go _ (T1.setTop (mkF m 7 #[.val (.ref o0), .val (.ref o1)] [(.ref o0)])) (fun t k => XS.aloadN X1.here hx rfl (hb hby d11_6) rfl rfl k) ?_
  obtain ⟨T2, X2, e2, st2⟩ := getF X1 hx hZ hown (host := "") (Or.inl (hw _ (List.mem_of_getElem? (i := 24) rfl))) Via.refl e1 PC (g := (mkF m 7 #[.val (.ref o0), .val (.ref o1)] [(.ref o0)])) rfl rfl (hb hby d11_7)
  refine go _ (T2.setTop (mkF m 10 #[.val (.ref o0), .val (.ref o1)] [(.int (0 : Int32))])) st2 ?_
  refine go _ (T2.setTop (mkF m 11 #[.val (.ref o0), .val (.ref o1)] [(.ref o1), (.int (0 : Int32))])) (fun t k => XS.aloadN X2.here hx rfl (hb hby d11_10) rfl rfl k) ?_
  obtain ⟨cq3, kq3, q3a, q3b, q3c⟩ := isOf hZ e2 QE
  obtain ⟨_, _, ⟨T3, L3, k3, n3⟩, -, X3, ⟨Lc3, hQ3, l3, y3, z3⟩, st3⟩ := X2.virtualBack hx (y := (⟨"java/lang/String", "coder", "()B"⟩ : MethodName)) (z := (⟨"java/lang/String", "coder", "()B"⟩ : MethodName)) hown (mvT hZ (hw _ (List.mem_of_getElem? (i := 72) rfl))) (mvT hZ (hw _ (List.mem_of_getElem? (i := 49) rfl))) (notFace_of_selects (args := #[]) (mvT hZ (hw _ (List.mem_of_getElem? (i := 51) rfl)))) (mvT hZ (hw _ (List.mem_of_getElem? (i := 51) rfl))) (mvT hZ (hw _ (List.mem_of_getElem? (i := 50) rfl))) (by decide) (backOf (W := 1) (rm8 l Z a0 hw [] o1 h0 n0 Z0 PS QC) hZ (hw _ (List.mem_of_getElem? (i := 52) rfl)) (hw _ (List.mem_of_getElem? (i := 20) rfl)) (by decide) (by decide)) q3a q3c (g := (mkF m 11 #[.val (.ref o0), .val (.ref o1)] [(.ref o1), (.int (0 : Int32))])) rfl (by rw [hml]; rfl) (Steps.refl _) (argsL := []) (rest := [(.int (0 : Int32))]) (lenOf own_pd_0 rfl) rfl (by show 2 * 0 + _ ≤ _; exact Nat.le_of_eq rfl) (hb hby d11_11) (fun _ _ => ⟨rfl, e2, (by decide : 0 + 0 ≤ _), (by decide : 0 + 0 ≤ _)⟩)
  dsimp only [Pt.U, Pt.locs, Pt.cells, Pt.slots] at X3 l3 y3 z3 st3 hQ3
  subst l3 y3 z3
  obtain ⟨rfl, Nq3, eq3⟩ := hQ3
  have N3 := Fr.app N0 Nq3
  refine go _ (T3.setTop (mkF m 14 #[.val (.ref o0), .val (.ref o1)] [(.int (0 : Int32)), (.int (0 : Int32))])) (fun t k => st3.trans k) ?_
  have hc14 : (0 : Int32) = (0 : Int32) := by decide
  refine go _ (T3.setTop (mkF m 21 #[.val (.ref o0), .val (.ref o1)] [])) (fun t k => XS.icmpYes X3.here hx rfl (pc0 := 14) (pc' := 21) rfl (hb hby d11_14) rfl (teq hc14).1 (by decide) (by decide) k) ?_
  refine fin (none) (mkF m 21 #[.val (.ref o0), .val (.ref o1)] []) X3 (fun _ => rfl) (fun fs hr => X3.returnOut hx hret (hb hby d11_21) hr) ?_ (by decide) (by decide)
  try rw [eq3]
  exact ⟨rfl, N3, rfl⟩
theorem own_ef12 (m : MethodId) (o0 : Addr) (o1 : Addr) (p2 : Int32) (p3 : Int32) : entryFrame m #[(.ref o0), (.ref o1), (.int p2), (.int p3)] 4 = mkF m 0 #[.val (.ref o0), .val (.ref o1), .val (.int p2), .val (.int p3)] [] := by first | (simp [entryFrame, mkF, argsToLocals, Value.category]; done) | rfl
theorem own_pn12 : plainName "java/lang/String" = true := by first | (simp [plainName, overriddenIn]; done) | decide +kernel
theorem d12_0 : decode jdk_42_method_147_code 0 = .ok (.aload_n 0, 1) := by decide +kernel
theorem d12_1 : decode jdk_42_method_147_code 1 = .ok (.invokevirtual 335, 3) := by decide +kernel
theorem d12_4 : decode jdk_42_method_147_code 4 = .ok (.iload_n 3, 1) := by decide +kernel
theorem d12_5 : decode jdk_42_method_147_code 5 = .ok (.if_icmp .ne 23, 3) := by decide +kernel
theorem d12_8 : decode jdk_42_method_147_code 8 = .ok (.aload_n 0, 1) := by decide +kernel
theorem d12_9 : decode jdk_42_method_147_code 9 = .ok (.getfield 9, 3) := by decide +kernel
theorem d12_12 : decode jdk_42_method_147_code 12 = .ok (.iconst 0, 1) := by decide +kernel
theorem d12_13 : decode jdk_42_method_147_code 13 = .ok (.aload_n 1, 1) := by decide +kernel
theorem d12_14 : decode jdk_42_method_147_code 14 = .ok (.iload_n 2, 1) := by decide +kernel
theorem d12_15 : decode jdk_42_method_147_code 15 = .ok (.iload_n 3, 1) := by decide +kernel
theorem d12_16 : decode jdk_42_method_147_code 16 = .ok (.ishl, 1) := by decide +kernel
theorem d12_17 : decode jdk_42_method_147_code 17 = .ok (.aload_n 0, 1) := by decide +kernel
theorem d12_18 : decode jdk_42_method_147_code 18 = .ok (.getfield 9, 3) := by decide +kernel
theorem d12_21 : decode jdk_42_method_147_code 21 = .ok (.arraylength, 1) := by decide +kernel
theorem d12_22 : decode jdk_42_method_147_code 22 = .ok (.invokestatic 212, 3) := by decide +kernel
theorem d12_25 : decode jdk_42_method_147_code 25 = .ok (.goto 18, 3) := by decide +kernel
theorem d12_43 : decode jdk_42_method_147_code 43 = .ok (.return_, 1) := by decide +kernel
def own_Q12 (Z : State) (o0 : Addr) (o1 : Addr) (p2 : Int32) (p3 : Int32) (sb : Addr) (kk : Nat) (f : Nat → Value) (nn : Nat) (g : Nat → Value) (cc : Nat) (h0 : Heap) (n0 : Nat) (v : Option Value) (h : Heap) (L : List Loc) : Prop := v = none ∧ Fr n0 L ∧ Keep h0 h [o1] ∧ own_Av Z h o1 .byte nn (own_app g cc kk f)
set_option maxRecDepth 65536 in
set_option maxHeartbeats 40000000 in
theorem rm12 (l : Launch) (Z : State) (a0 : Array Value) (hw : ∀ d ∈ tables_1, d.before a0 Z = true) (ws : List Jvm.Cond) (o0 : Addr) (o1 : Addr) (p2 : Int32) (p3 : Int32) (sb : Addr) (kk : Nat) (f : Nat → Value) (nn : Nat) (g : Nat → Value) (cc : Nat) (h0 : Heap) (n0 : Nat) (Z0 : n0 ≤ h0.size) (PS : own_St Z n0 h0) (QE : Exa Z h0 o0 "java/lang/String") (QC : Fld Z h0 o0 "java/lang/String" "coder" "B" (.int (0 : Int32))) (QV : Fld Z h0 o0 "java/lang/String" "value" "[B" (.ref sb)) (QA : own_Av Z h0 sb .byte kk f) (PD : own_Av Z h0 o1 .byte nn g) (Pz : p3 = (0 : Int32)) (Pp : p2.toInt = (cc : Int)) (Pb : cc + kk ≤ nn) (Pk : nn < 100000) (Pg : n0 ≤ o1) :
    MetFree l (⟨"java/lang/String", "getBytes", "([BIB)V"⟩ : MethodName) (head1 (Jvm.Cond.code (⟨"java/lang/String", "getBytes", "([BIB)V"⟩ : MethodName) jdk_42_method_147_code 4 none :: ws) ({ frames := 1, cells := 0, slots := 0, locals := 18 } : Room)) (fun a U => a = #[(.ref o0), (.ref o1), (.int p2), (.int p3)] ∧ Z.Warmed39 U.vm ∧ U.heap = h0) (fun _ _ _ _ _ => True) (fun _ U o U' => ∃ v L, o = .returned v ∧ own_Q12 Z o0 o1 p2 p3 sb kk f nn g cc h0 n0 v U'.heap L ∧ FrameEnd U o U' L ({ frames := 1, cells := 0, slots := 0, locals := 18 } : Room).cells ({ frames := 1, cells := 0, slots := 0, locals := 18 } : Room).slots) := by
  refine own_metfree (Q := own_Q12 Z o0 o1 p2 p3 sb kk f nn g cc h0 n0) (plainFor_of_name own_pn12) ?_
  intro p e s m below meth c s₁ X0 hx hby hml hret hown hnm hZ e0 G go fin
  have N0 := Fr.nil n0
  refine go _ (s₁.setTop (mkF m 0 #[.val (.ref o0), .val (.ref o1), .val (.int p2), .val (.int p3)] [])) (fun t k => castTop (own_ef12 m o0 o1 p2 p3) k) ?_
  have hk32 := own_n32 (n := kk) (by omega)
  rw [Pz]
  refine go _ (s₁.setTop (mkF m 1 #[.val (.ref o0), .val (.ref o1), .val (.int p2), .val (.int (0 : Int32))] [(.ref o0)])) (fun t k => XS.aloadN X0.here hx rfl (hb hby d12_0) rfl rfl k) ?_
  obtain ⟨cq1, kq1, q1a, q1b, q1c⟩ := isOf hZ e0 QE
  obtain ⟨_, _, ⟨T1, L1, k1, n1⟩, -, X1, ⟨Lc1, hQ1, l1, y1, z1⟩, st1⟩ := X0.virtualBack hx (y := (⟨"java/lang/String", "coder", "()B"⟩ : MethodName)) (z := (⟨"java/lang/String", "coder", "()B"⟩ : MethodName)) hown (mvT hZ (hw _ (List.mem_of_getElem? (i := 48) rfl))) (mvT hZ (hw _ (List.mem_of_getElem? (i := 49) rfl))) (notFace_of_selects (args := #[]) (mvT hZ (hw _ (List.mem_of_getElem? (i := 51) rfl)))) (mvT hZ (hw _ (List.mem_of_getElem? (i := 51) rfl))) (mvT hZ (hw _ (List.mem_of_getElem? (i := 50) rfl))) (by decide) (backOf (W := 0) (rm8 l Z a0 hw [] o0 h0 n0 Z0 PS QC) hZ (hw _ (List.mem_of_getElem? (i := 52) rfl)) (hw _ (List.mem_of_getElem? (i := 20) rfl)) (by decide) (by decide)) q1a q1c (g := (mkF m 1 #[.val (.ref o0), .val (.ref o1), .val (.int p2), .val (.int (0 : Int32))] [(.ref o0)])) rfl (by rw [hml]; rfl) (Steps.refl _) (argsL := []) (rest := []) (lenOf own_pd_0 rfl) rfl (by show 2 * 0 + _ ≤ _; exact Nat.le_of_eq rfl) (hb hby d12_1) (fun _ _ => ⟨rfl, e0, (by decide : 0 + 0 ≤ _), (by decide : 0 + 0 ≤ _)⟩)
  dsimp only [Pt.U, Pt.locs, Pt.cells, Pt.slots] at X1 l1 y1 z1 st1 hQ1
  subst l1 y1 z1
  obtain ⟨rfl, Nq1, eq1⟩ := hQ1
  have N1 := Fr.app N0 Nq1
  refine go _ (T1.setTop (mkF m 4 #[.val (.ref o0), .val (.ref o1), .val (.int p2), .val (.int (0 : Int32))] [(.int (0 : Int32))])) (fun t k => st1.trans k) ?_
  refine go _ (T1.setTop (mkF m 5 #[.val (.ref o0), .val (.ref o1), .val (.int p2), .val (.int (0 : Int32))] [(.int (0 : Int32)), (.int (0 : Int32))])) (fun t k => XS.iloadN X1.here hx rfl (hb hby d12_4) rfl k) ?_
  have hc5 : (0 : Int32) = (0 : Int32) := by decide
  refine go _ (T1.setTop (mkF m 8 #[.val (.ref o0), .val (.ref o1), .val (.int p2), .val (.int (0 : Int32))] [])) (fun t k => XS.icmpNo X1.here hx rfl (hb hby d12_5) rfl (teq hc5).2 k) ?_
  refine go _ (T1.setTop (mkF m 9 #[.val (.ref o0), .val (.ref o1), .val (.int p2), .val (.int (0 : Int32))] [(.ref o0)])) (fun t k => XS.aloadN X1.here hx rfl (hb hby d12_8) rfl rfl k) ?_
  obtain ⟨T2, X2, e2, st2⟩ := getF X1 hx hZ hown (host := "") (Or.inl (hw _ (List.mem_of_getElem? (i := 47) rfl))) Via.refl eq1 QV (g := (mkF m 9 #[.val (.ref o0), .val (.ref o1), .val (.int p2), .val (.int (0 : Int32))] [(.ref o0)])) rfl rfl (hb hby d12_9)
  refine go _ (T2.setTop (mkF m 12 #[.val (.ref o0), .val (.ref o1), .val (.int p2), .val (.int (0 : Int32))] [(.ref sb)])) st2 ?_
  refine go _ (T2.setTop (mkF m 13 #[.val (.ref o0), .val (.ref o1), .val (.int p2), .val (.int (0 : Int32))] [(.int (0 : Int32)), (.ref sb)])) (fun t k => XS.iconst X2.here hx rfl (hb hby d12_12) k) ?_
  refine go _ (T2.setTop (mkF m 14 #[.val (.ref o0), .val (.ref o1), .val (.int p2), .val (.int (0 : Int32))] [(.ref o1), (.int (0 : Int32)), (.ref sb)])) (fun t k => XS.aloadN X2.here hx rfl (hb hby d12_13) rfl rfl k) ?_
  refine go _ (T2.setTop (mkF m 15 #[.val (.ref o0), .val (.ref o1), .val (.int p2), .val (.int (0 : Int32))] [(.int p2), (.ref o1), (.int (0 : Int32)), (.ref sb)])) (fun t k => XS.iloadN X2.here hx rfl (hb hby d12_14) rfl k) ?_
  refine go _ (T2.setTop (mkF m 16 #[.val (.ref o0), .val (.ref o1), .val (.int p2), .val (.int (0 : Int32))] [(.int (0 : Int32)), (.int p2), (.ref o1), (.int (0 : Int32)), (.ref sb)])) (fun t k => XS.iloadN X2.here hx rfl (hb hby d12_15) rfl k) ?_
  refine go _ (T2.setTop (mkF m 17 #[.val (.ref o0), .val (.ref o1), .val (.int p2), .val (.int (0 : Int32))] [(.int (p2 <<< ((0 : Int32) &&& 31))), (.ref o1), (.int (0 : Int32)), (.ref sb)])) (fun t k => XS.ishl X2.here hx rfl (hb hby d12_16) rfl k) ?_
  rw [own_sh0l]
  refine go _ (T2.setTop (mkF m 18 #[.val (.ref o0), .val (.ref o1), .val (.int p2), .val (.int (0 : Int32))] [(.ref o0), (.int p2), (.ref o1), (.int (0 : Int32)), (.ref sb)])) (fun t k => XS.aloadN X2.here hx rfl (hb hby d12_17) rfl rfl k) ?_
  obtain ⟨T3, X3, e3, st3⟩ := getF X2 hx hZ hown (host := "") (Or.inl (hw _ (List.mem_of_getElem? (i := 47) rfl))) Via.refl e2 QV (g := (mkF m 18 #[.val (.ref o0), .val (.ref o1), .val (.int p2), .val (.int (0 : Int32))] [(.ref o0), (.int p2), (.ref o1), (.int (0 : Int32)), (.ref sb)])) rfl rfl (hb hby d12_18)
  refine go _ (T3.setTop (mkF m 21 #[.val (.ref o0), .val (.ref o1), .val (.int p2), .val (.int (0 : Int32))] [(.ref sb), (.int p2), (.ref o1), (.int (0 : Int32)), (.ref sb)])) st3 ?_
  refine go _ (T3.setTop (mkF m 22 #[.val (.ref o0), .val (.ref o1), .val (.int p2), .val (.int (0 : Int32))] [(.int (Int32.ofNat kk)), (.int p2), (.ref o1), (.int (0 : Int32)), (.ref sb)])) (fun t k => own_len X3 hx hZ e3 QA hk32 (g := (mkF m 21 #[.val (.ref o0), .val (.ref o1), .val (.int p2), .val (.int (0 : Int32))] [(.ref sb), (.int p2), (.ref o1), (.int (0 : Int32)), (.ref sb)])) rfl rfl (hb hby d12_21) _ k) ?_
  obtain ⟨T4, h4, L4, X4, e4, N4, K4, Av4, st4⟩ := own_cpy X3 hx hZ hown (hw _ (List.mem_of_getElem? (i := 78) rfl)) (hw _ (List.mem_of_getElem? (i := 81) rfl)) (hw _ (List.mem_of_getElem? (i := 79) rfl)) (hw _ (List.mem_of_getElem? (i := 80) rfl)) e3 QA PD rfl (i := 0) (j := cc) (k := kk) (by decide) Pp hk32 (by omega) Pb N1 Pg (fr := (mkF m 22 #[.val (.ref o0), .val (.ref o1), .val (.int p2), .val (.int (0 : Int32))] [(.int (Int32.ofNat kk)), (.int p2), (.ref o1), (.int (0 : Int32)), (.ref sb)])) rfl (by rw [hml]; rfl) rfl (hb hby d12_22) (by decide) (W := 0) (by show 2 * 0 + _ ≤ _; exact Nat.le_of_eq rfl) (by decide)
  refine go _ (T4.setTop (mkF m 25 #[.val (.ref o0), .val (.ref o1), .val (.int p2), .val (.int (0 : Int32))] [])) st4 ?_
  refine go _ (T4.setTop (mkF m 43 #[.val (.ref o0), .val (.ref o1), .val (.int p2), .val (.int (0 : Int32))] [])) (fun t k => XS.goto X4.here hx rfl (pc0 := 25) (pc' := 43) rfl (hb hby d12_25) (by decide) (by decide) k) ?_
  refine fin (none) (mkF m 43 #[.val (.ref o0), .val (.ref o1), .val (.int p2), .val (.int (0 : Int32))] []) X4 (fun _ => rfl) (fun fs hr => X4.returnOut hx hret (hb hby d12_43) hr) ?_ (by decide) (by decide)
  try rw [e4]
  exact ⟨rfl, N4, ((Keep.refl h0 [o1]).trans K4 (allS (Or.inl (List.mem_of_getElem? (i := 0) rfl)) all0)), Av4⟩
theorem own_ef10 (m : MethodId) (o0 : Addr) (p1 : Int32) (o2 : Addr) : entryFrame m #[(.ref o0), (.int p1), (.ref o2)] 3 = mkF m 0 #[.val (.ref o0), .val (.int p1), .val (.ref o2)] [] := by first | (simp [entryFrame, mkF, argsToLocals, Value.category]; done) | rfl
theorem own_pn10 : plainName "java/lang/AbstractStringBuilder" = true := by first | (simp [plainName, overriddenIn]; done) | decide +kernel
theorem d10_0 : decode jdk_68_method_73_code 0 = .ok (.aload_n 0, 1) := by decide +kernel
theorem d10_1 : decode jdk_68_method_73_code 1 = .ok (.aload_n 2, 1) := by decide +kernel
theorem d10_2 : decode jdk_68_method_73_code 2 = .ok (.invokevirtual 397, 3) := by decide +kernel
theorem own_pd_7 : parseMethodDescriptor "(Ljava/lang/String;)V" = some ⟨[(.object "java/lang/String")], none⟩ := by decide +kernel
theorem d10_5 : decode jdk_68_method_73_code 5 = .ok (.aload_n 2, 1) := by decide +kernel
theorem d10_6 : decode jdk_68_method_73_code 6 = .ok (.aload_n 0, 1) := by decide +kernel
theorem d10_7 : decode jdk_68_method_73_code 7 = .ok (.getfield 15, 3) := by decide +kernel
theorem d10_10 : decode jdk_68_method_73_code 10 = .ok (.iload_n 1, 1) := by decide +kernel
theorem d10_11 : decode jdk_68_method_73_code 11 = .ok (.aload_n 0, 1) := by decide +kernel
theorem d10_12 : decode jdk_68_method_73_code 12 = .ok (.getfield 22, 3) := by decide +kernel
theorem d10_15 : decode jdk_68_method_73_code 15 = .ok (.invokevirtual 399, 3) := by decide +kernel
theorem own_pd_8 : parseMethodDescriptor "([BIB)V" = some ⟨[(.array .byte), .int, .byte], none⟩ := by decide +kernel
theorem d10_18 : decode jdk_68_method_73_code 18 = .ok (.return_, 1) := by decide +kernel
def own_Q10 (Z : State) (o0 : Addr) (p1 : Int32) (o2 : Addr) (ob : Addr) (nn : Nat) (g : Nat → Value) (sb : Addr) (kk : Nat) (f : Nat → Value) (cc : Nat) (h0 : Heap) (n0 : Nat) (v : Option Value) (h : Heap) (L : List Loc) : Prop := v = none ∧ Fr n0 L ∧ Keep h0 h [ob] ∧ own_Av Z h ob .byte nn (own_app g cc kk f)
set_option maxRecDepth 65536 in
set_option maxHeartbeats 40000000 in
theorem rm10 (l : Launch) (Z : State) (a0 : Array Value) (hw : ∀ d ∈ tables_1, d.before a0 Z = true) (ws : List Jvm.Cond) (o0 : Addr) (p1 : Int32) (o2 : Addr) (ob : Addr) (nn : Nat) (g : Nat → Value) (sb : Addr) (kk : Nat) (f : Nat → Value) (cc : Nat) (h0 : Heap) (n0 : Nat) (Z0 : n0 ≤ h0.size) (PS : own_St Z n0 h0) (PE : Exa Z h0 o0 "java/lang/StringBuilder") (PC : Fld Z h0 o0 "java/lang/AbstractStringBuilder" "coder" "B" (.int (0 : Int32))) (PV : Fld Z h0 o0 "java/lang/AbstractStringBuilder" "value" "[B" (.ref ob)) (PA : own_Av Z h0 ob .byte nn g) (PX : Exa Z h0 ob "[B") (QE : Exa Z h0 o2 "java/lang/String") (QC : Fld Z h0 o2 "java/lang/String" "coder" "B" (.int (0 : Int32))) (QV : Fld Z h0 o2 "java/lang/String" "value" "[B" (.ref sb)) (QA : own_Av Z h0 sb .byte kk f) (Pp : p1.toInt = (cc : Int)) (Pb : cc + kk ≤ nn) (Pk : nn < 100000) (Pgb : n0 ≤ ob) :
    MetFree l (⟨"java/lang/AbstractStringBuilder", "putStringAt", "(ILjava/lang/String;)V"⟩ : MethodName) (head1 (Jvm.Cond.code (⟨"java/lang/AbstractStringBuilder", "putStringAt", "(ILjava/lang/String;)V"⟩ : MethodName) jdk_68_method_73_code 3 none :: ws) ({ frames := 2, cells := 0, slots := 0, locals := 33 } : Room)) (fun a U => a = #[(.ref o0), (.int p1), (.ref o2)] ∧ Z.Warmed39 U.vm ∧ U.heap = h0) (fun _ _ _ _ _ => True) (fun _ U o U' => ∃ v L, o = .returned v ∧ own_Q10 Z o0 p1 o2 ob nn g sb kk f cc h0 n0 v U'.heap L ∧ FrameEnd U o U' L ({ frames := 2, cells := 0, slots := 0, locals := 33 } : Room).cells ({ frames := 2, cells := 0, slots := 0, locals := 33 } : Room).slots) := by
  refine own_metfree (Q := own_Q10 Z o0 p1 o2 ob nn g sb kk f cc h0 n0) (plainFor_of_name own_pn10) ?_
  intro p e s m below meth c s₁ X0 hx hby hml hret hown hnm hZ e0 G go fin
  have N0 := Fr.nil n0
  refine go _ (s₁.setTop (mkF m 0 #[.val (.ref o0), .val (.int p1), .val (.ref o2)] [])) (fun t k => castTop (own_ef10 m o0 p1 o2) k) ?_
  refine go _ (s₁.setTop (mkF m 1 #[.val (.ref o0), .val (.int p1), .val (.ref o2)] [(.ref o0)])) (fun t k => XS.aloadN X0.here hx rfl (hb hby d10_0) rfl rfl k) ?_
  refine go _ (s₁.setTop (mkF m 2 #[.val (.ref o0), .val (.int p1), .val (.ref o2)] [(.ref o2), (.ref o0)])) (fun t k => XS.aloadN X0.here hx rfl (hb hby d10_1) rfl rfl k) ?_
  obtain ⟨cq1, kq1, q1a, q1b, q1c⟩ := isOf hZ e0 PE
  obtain ⟨_, _, ⟨T1, L1, k1, n1⟩, -, X1, ⟨Lc1, hQ1, l1, y1, z1⟩, st1⟩ := X0.virtualBack hx (y := (⟨"java/lang/AbstractStringBuilder", "inflateIfNeededFor", "(Ljava/lang/String;)V"⟩ : MethodName)) (z := (⟨"java/lang/AbstractStringBuilder", "inflateIfNeededFor", "(Ljava/lang/String;)V"⟩ : MethodName)) hown (mvT hZ (hw _ (List.mem_of_getElem? (i := 67) rfl))) (mvT hZ (own_decl (hw _ (List.mem_of_getElem? (i := 68) rfl)) (hw _ (List.mem_of_getElem? (i := 71) rfl)))) (notFace_of_selects (args := #[]) (mvT hZ (hw _ (List.mem_of_getElem? (i := 70) rfl)))) (mvT hZ (hw _ (List.mem_of_getElem? (i := 70) rfl))) (mvT hZ (hw _ (List.mem_of_getElem? (i := 68) rfl))) (by decide) (backOf (W := 0) (rm11 l Z a0 hw [] o0 o2 h0 n0 Z0 PS PC QE QC) hZ (hw _ (List.mem_of_getElem? (i := 71) rfl)) (hw _ (List.mem_of_getElem? (i := 14) rfl)) (by decide) (by decide)) q1a q1c (g := (mkF m 2 #[.val (.ref o0), .val (.int p1), .val (.ref o2)] [(.ref o2), (.ref o0)])) rfl (by rw [hml]; rfl) (Steps.refl _) (argsL := [(.ref o2)]) (rest := []) (lenOf own_pd_7 rfl) rfl (by show 2 * 0 + _ ≤ _; exact Nat.le_of_eq rfl) (hb hby d10_2) (fun _ _ => ⟨rfl, e0, (by decide : 0 + 0 ≤ _), (by decide : 0 + 0 ≤ _)⟩)
  dsimp only [Pt.U, Pt.locs, Pt.cells, Pt.slots] at X1 l1 y1 z1 st1 hQ1
  subst l1 y1 z1
  obtain ⟨rfl, Nq1, eq1⟩ := hQ1
  have N1 := Fr.app N0 Nq1
  refine go _ (T1.setTop (mkF m 5 #[.val (.ref o0), .val (.int p1), .val (.ref o2)] [])) (fun t k => st1.trans k) ?_
  refine go _ (T1.setTop (mkF m 6 #[.val (.ref o0), .val (.int p1), .val (.ref o2)] [(.ref o2)])) (fun t k => XS.aloadN X1.here hx rfl (hb hby d10_5) rfl rfl k) ?_
  refine go _ (T1.setTop (mkF m 7 #[.val (.ref o0), .val (.int p1), .val (.ref o2)] [(.ref o0), (.ref o2)])) (fun t k => XS.aloadN X1.here hx rfl (hb hby d10_6) rfl rfl k) ?_
  obtain ⟨T2, X2, e2, st2⟩ := getF X1 hx hZ hown (host := "") (Or.inl (hw _ (List.mem_of_getElem? (i := 22) rfl))) Via.refl eq1 PV (g := (mkF m 7 #[.val (.ref o0), .val (.int p1), .val (.ref o2)] [(.ref o0), (.ref o2)])) rfl rfl (hb hby d10_7)
  refine go _ (T2.setTop (mkF m 10 #[.val (.ref o0), .val (.int p1), .val (.ref o2)] [(.ref ob), (.ref o2)])) st2 ?_
  refine go _ (T2.setTop (mkF m 11 #[.val (.ref o0), .val (.int p1), .val (.ref o2)] [(.int p1), (.ref ob), (.ref o2)])) (fun t k => XS.iloadN X2.here hx rfl (hb hby d10_10) rfl k) ?_
  refine go _ (T2.setTop (mkF m 12 #[.val (.ref o0), .val (.int p1), .val (.ref o2)] [(.ref o0), (.int p1), (.ref ob), (.ref o2)])) (fun t k => XS.aloadN X2.here hx rfl (hb hby d10_11) rfl rfl k) ?_
  obtain ⟨T3, X3, e3, st3⟩ := getF X2 hx hZ hown (host := "") (Or.inl (hw _ (List.mem_of_getElem? (i := 24) rfl))) Via.refl e2 PC (g := (mkF m 12 #[.val (.ref o0), .val (.int p1), .val (.ref o2)] [(.ref o0), (.int p1), (.ref ob), (.ref o2)])) rfl rfl (hb hby d10_12)
  refine go _ (T3.setTop (mkF m 15 #[.val (.ref o0), .val (.int p1), .val (.ref o2)] [(.int (0 : Int32)), (.int p1), (.ref ob), (.ref o2)])) st3 ?_
  obtain ⟨cq4, kq4, q4a, q4b, q4c⟩ := isOf hZ e3 QE
  obtain ⟨_, _, ⟨T4, L4, k4, n4⟩, -, X4, ⟨Lc4, hQ4, l4, y4, z4⟩, st4⟩ := X3.virtualBack hx (y := (⟨"java/lang/String", "getBytes", "([BIB)V"⟩ : MethodName)) (z := (⟨"java/lang/String", "getBytes", "([BIB)V"⟩ : MethodName)) hown (mvT hZ (hw _ (List.mem_of_getElem? (i := 73) rfl))) (mvT hZ (hw _ (List.mem_of_getElem? (i := 74) rfl))) (notFace_of_selects (args := #[]) (mvT hZ (hw _ (List.mem_of_getElem? (i := 76) rfl)))) (mvT hZ (hw _ (List.mem_of_getElem? (i := 76) rfl))) (mvT hZ (hw _ (List.mem_of_getElem? (i := 75) rfl))) (by decide) (backOf (W := 0) (rm12 l Z a0 hw [] o2 ob p1 (0 : Int32) sb kk f nn g cc h0 n0 Z0 PS QE QC QV QA PA rfl Pp Pb Pk Pgb) hZ (hw _ (List.mem_of_getElem? (i := 77) rfl)) (hw _ (List.mem_of_getElem? (i := 20) rfl)) (by decide) (by decide)) q4a q4c (g := (mkF m 15 #[.val (.ref o0), .val (.int p1), .val (.ref o2)] [(.int (0 : Int32)), (.int p1), (.ref ob), (.ref o2)])) rfl (by rw [hml]; rfl) (Steps.refl _) (argsL := [(.ref ob), (.int p1), (.int (0 : Int32))]) (rest := []) (lenOf own_pd_8 rfl) rfl (by show 2 * 0 + _ ≤ _; exact Nat.le_of_eq rfl) (hb hby d10_15) (fun _ _ => ⟨rfl, e3, (by decide : 0 + 0 ≤ _), (by decide : 0 + 0 ≤ _)⟩)
  dsimp only [Pt.U, Pt.locs, Pt.cells, Pt.slots] at X4 l4 y4 z4 st4 hQ4
  subst l4 y4 z4
  obtain ⟨rfl, Nq4, K4, Ap4⟩ := hQ4
  have N4 := Fr.app N1 Nq4
  refine go _ (T4.setTop (mkF m 18 #[.val (.ref o0), .val (.int p1), .val (.ref o2)] [])) (fun t k => st4.trans k) ?_
  refine fin (none) (mkF m 18 #[.val (.ref o0), .val (.int p1), .val (.ref o2)] []) X4 (fun _ => rfl) (fun fs hr => X4.returnOut hx hret (hb hby d10_18) hr) ?_ (by decide) (by decide)
  exact ⟨rfl, N4, ((Keep.refl h0 [ob]).trans K4 (allS (Or.inl (List.mem_of_getElem? (i := 0) rfl)) all0)), Ap4⟩
theorem own_ef6_a (m : MethodId) (o0 : Addr) (o1 : Addr) : entryFrame m #[(.ref o0), (.ref o1)] 3 = mkF m 0 #[.val (.ref o0), .val (.ref o1), .unset] [] := by first | (simp [entryFrame, mkF, argsToLocals, Value.category]; done) | rfl
theorem own_pn6 : plainName "java/lang/AbstractStringBuilder" = true := by first | (simp [plainName, overriddenIn]; done) | decide +kernel
theorem d6_0 : decode jdk_68_method_22_code 0 = .ok (.aload_n 1, 1) := by decide +kernel
theorem d6_1 : decode jdk_68_method_22_code 1 = .ok (.ifnonnull 8, 3) := by decide +kernel
theorem d6_9 : decode jdk_68_method_22_code 9 = .ok (.aload_n 1, 1) := by decide +kernel
theorem d6_10 : decode jdk_68_method_22_code 10 = .ok (.invokevirtual 32, 3) := by decide +kernel
theorem own_pd_9 : parseMethodDescriptor "()I" = some ⟨[], some .int⟩ := by decide +kernel
theorem d6_13 : decode jdk_68_method_22_code 13 = .ok (.istore_n 2, 1) := by decide +kernel
theorem d6_14 : decode jdk_68_method_22_code 14 = .ok (.aload_n 0, 1) := by decide +kernel
theorem d6_15 : decode jdk_68_method_22_code 15 = .ok (.aload_n 0, 1) := by decide +kernel
theorem d6_16 : decode jdk_68_method_22_code 16 = .ok (.getfield 79, 3) := by decide +kernel
theorem d6_19 : decode jdk_68_method_22_code 19 = .ok (.iload_n 2, 1) := by decide +kernel
theorem d6_20 : decode jdk_68_method_22_code 20 = .ok (.iadd, 1) := by decide +kernel
theorem d6_21 : decode jdk_68_method_22_code 21 = .ok (.invokevirtual 100, 3) := by decide +kernel
theorem own_pd_10 : parseMethodDescriptor "(I)V" = some ⟨[.int], none⟩ := by decide +kernel
theorem d6_24 : decode jdk_68_method_22_code 24 = .ok (.aload_n 0, 1) := by decide +kernel
theorem d6_25 : decode jdk_68_method_22_code 25 = .ok (.aload_n 0, 1) := by decide +kernel
theorem d6_26 : decode jdk_68_method_22_code 26 = .ok (.getfield 79, 3) := by decide +kernel
theorem d6_29 : decode jdk_68_method_22_code 29 = .ok (.aload_n 1, 1) := by decide +kernel
theorem d6_30 : decode jdk_68_method_22_code 30 = .ok (.invokevirtual 208, 3) := by decide +kernel
theorem own_pd_11 : parseMethodDescriptor "(ILjava/lang/String;)V" = some ⟨[.int, (.object "java/lang/String")], none⟩ := by decide +kernel
theorem d6_33 : decode jdk_68_method_22_code 33 = .ok (.aload_n 0, 1) := by decide +kernel
theorem d6_34 : decode jdk_68_method_22_code 34 = .ok (.dup, 1) := by decide +kernel
theorem d6_35 : decode jdk_68_method_22_code 35 = .ok (.getfield 79, 3) := by decide +kernel
theorem d6_38 : decode jdk_68_method_22_code 38 = .ok (.iload_n 2, 1) := by decide +kernel
theorem d6_39 : decode jdk_68_method_22_code 39 = .ok (.iadd, 1) := by decide +kernel
theorem d6_40 : decode jdk_68_method_22_code 40 = .ok (.putfield 79, 3) := by decide +kernel
theorem d6_43 : decode jdk_68_method_22_code 43 = .ok (.aload_n 0, 1) := by decide +kernel
theorem d6_44 : decode jdk_68_method_22_code 44 = .ok (.areturn, 1) := by decide +kernel
def own_Q6_a (Z : State) (o0 : Addr) (o1 : Addr) (ob : Addr) (g : Nat → Value) (vc : Int32) (cc : Nat) (sb : Addr) (kk : Nat) (f : Nat → Value) (h0 : Heap) (n0 : Nat) (v : Option Value) (h : Heap) (L : List Loc) : Prop := v = some (.ref o0) ∧ Fr n0 L ∧ Keep h0 h [o0, ob] ∧ Exa Z h o0 "java/lang/StringBuilder" ∧ Fld Z h o0 "java/lang/AbstractStringBuilder" "coder" "B" (.int (0 : Int32)) ∧ Fld Z h o0 "java/lang/AbstractStringBuilder" "count" "I" (.int (vc + (Int32.ofNat kk))) ∧ Fld Z h o0 "java/lang/AbstractStringBuilder" "value" "[B" (.ref ob) ∧ Exa Z h ob "[B" ∧ own_Av Z h ob .byte 16 (own_app g cc kk f)
set_option maxRecDepth 65536 in
set_option maxHeartbeats 40000000 in
theorem rm6_a (l : Launch) (Z : State) (a0 : Array Value) (hw : ∀ d ∈ tables_1, d.before a0 Z = true) (ws : List Jvm.Cond) (o0 : Addr) (o1 : Addr) (ob : Addr) (g : Nat → Value) (vc : Int32) (cc : Nat) (sb : Addr) (kk : Nat) (f : Nat → Value) (h0 : Heap) (n0 : Nat) (Z0 : n0 ≤ h0.size) (PS : own_St Z n0 h0) (PE : Exa Z h0 o0 "java/lang/StringBuilder") (PC : Fld Z h0 o0 "java/lang/AbstractStringBuilder" "coder" "B" (.int (0 : Int32))) (PV : Fld Z h0 o0 "java/lang/AbstractStringBuilder" "value" "[B" (.ref ob)) (PA : own_Av Z h0 ob .byte 16 g) (PX : Exa Z h0 ob "[B") (PN : Fld Z h0 o0 "java/lang/AbstractStringBuilder" "count" "I" (.int vc)) (QE : Exa Z h0 o1 "java/lang/String") (QC : Fld Z h0 o1 "java/lang/String" "coder" "B" (.int (0 : Int32))) (QV : Fld Z h0 o1 "java/lang/String" "value" "[B" (.ref sb)) (QA : own_Av Z h0 sb .byte kk f) (Pc : vc.toInt = (cc : Int)) (B1 : cc + kk ≤ 16) (B2 : cc + kk ≤ 200) (Pg : n0 ≤ o0) (Pgb : n0 ≤ ob) (Ne0 : o0 ≠ o1) (Ne1 : o0 ≠ ob) (Ne2 : o0 ≠ sb) (Ne3 : o1 ≠ ob) (Ne4 : ob ≠ sb) :
    MetFree l (⟨"java/lang/AbstractStringBuilder", "append", "(Ljava/lang/String;)Ljava/lang/AbstractStringBuilder;"⟩ : MethodName) (head1 (Jvm.Cond.code (⟨"java/lang/AbstractStringBuilder", "append", "(Ljava/lang/String;)Ljava/lang/AbstractStringBuilder;"⟩ : MethodName) jdk_68_method_22_code 3 (some (.object "java/lang/AbstractStringBuilder")) :: ws) ({ frames := 3, cells := 0, slots := 0, locals := 47 } : Room)) (fun a U => a = #[(.ref o0), (.ref o1)] ∧ Z.Warmed39 U.vm ∧ U.heap = h0) (fun _ _ _ _ _ => True) (fun _ U o U' => ∃ v L, o = .returned v ∧ own_Q6_a Z o0 o1 ob g vc cc sb kk f h0 n0 v U'.heap L ∧ FrameEnd U o U' L ({ frames := 3, cells := 0, slots := 0, locals := 47 } : Room).cells ({ frames := 3, cells := 0, slots := 0, locals := 47 } : Room).slots) := by
  refine own_metfree (Q := own_Q6_a Z o0 o1 ob g vc cc sb kk f h0 n0) (plainFor_of_name own_pn6) ?_
  intro p e s m below meth c s₁ X0 hx hby hml hret hown hnm hZ e0 G go fin
  have N0 := Fr.nil n0
  refine go _ (s₁.setTop (mkF m 0 #[.val (.ref o0), .val (.ref o1), .unset] [])) (fun t k => castTop (own_ef6_a m o0 o1) k) ?_
  refine go _ (s₁.setTop (mkF m 1 #[.val (.ref o0), .val (.ref o1), .unset] [(.ref o1)])) (fun t k => XS.aloadN X0.here hx rfl (hb hby d6_0) rfl rfl k) ?_
  refine go _ (s₁.setTop (mkF m 9 #[.val (.ref o0), .val (.ref o1), .unset] [])) (fun t k => XS.ifnonnullYes X0.here hx rfl (pc0 := 1) (pc' := 9) rfl (hb hby d6_1) rfl (by decide) (by decide) k) ?_
  refine go _ (s₁.setTop (mkF m 10 #[.val (.ref o0), .val (.ref o1), .unset] [(.ref o1)])) (fun t k => XS.aloadN X0.here hx rfl (hb hby d6_9) rfl rfl k) ?_
  obtain ⟨cq1, kq1, q1a, q1b, q1c⟩ := isOf hZ e0 QE
  obtain ⟨_, _, ⟨T1, L1, k1, n1⟩, -, X1, ⟨Lc1, hQ1, l1, y1, z1⟩, st1⟩ := X0.virtualBack hx (y := (⟨"java/lang/String", "length", "()I"⟩ : MethodName)) (z := (⟨"java/lang/String", "length", "()I"⟩ : MethodName)) hown (mvT hZ (hw _ (List.mem_of_getElem? (i := 42) rfl))) (mvT hZ (hw _ (List.mem_of_getElem? (i := 43) rfl))) (notFace_of_selects (args := #[]) (mvT hZ (hw _ (List.mem_of_getElem? (i := 45) rfl)))) (mvT hZ (hw _ (List.mem_of_getElem? (i := 45) rfl))) (mvT hZ (hw _ (List.mem_of_getElem? (i := 44) rfl))) (by decide) (backOf (W := 0) (rm7 l Z a0 hw [] o1 sb kk f h0 n0 Z0 PS QE QC QV QA (by omega)) hZ (hw _ (List.mem_of_getElem? (i := 46) rfl)) (hw _ (List.mem_of_getElem? (i := 20) rfl)) (by decide) (by decide)) q1a q1c (g := (mkF m 10 #[.val (.ref o0), .val (.ref o1), .unset] [(.ref o1)])) rfl (by rw [hml]; rfl) (Steps.refl _) (argsL := []) (rest := []) (lenOf own_pd_9 rfl) rfl (by show 2 * 0 + _ ≤ _; exact Nat.le_of_eq rfl) (hb hby d6_10) (fun _ _ => ⟨rfl, e0, (by decide : 0 + 0 ≤ _), (by decide : 0 + 0 ≤ _)⟩)
  dsimp only [Pt.U, Pt.locs, Pt.cells, Pt.slots] at X1 l1 y1 z1 st1 hQ1
  subst l1 y1 z1
  obtain ⟨rfl, Nq1, eq1⟩ := hQ1
  have N1 := Fr.app N0 Nq1
  refine go _ (T1.setTop (mkF m 13 #[.val (.ref o0), .val (.ref o1), .unset] [(.int (Int32.ofNat kk))])) (fun t k => st1.trans k) ?_
  refine go _ (T1.setTop (mkF m 14 #[.val (.ref o0), .val (.ref o1), .val (.int (Int32.ofNat kk))] [])) (fun t k => XS.istoreN X1.here hx rfl (hb hby d6_13) rfl (l' := #[.val (.ref o0), .val (.ref o1), .val (.int (Int32.ofNat kk))]) rfl k) ?_
  refine go _ (T1.setTop (mkF m 15 #[.val (.ref o0), .val (.ref o1), .val (.int (Int32.ofNat kk))] [(.ref o0)])) (fun t k => XS.aloadN X1.here hx rfl (hb hby d6_14) rfl rfl k) ?_
  refine go _ (T1.setTop (mkF m 16 #[.val (.ref o0), .val (.ref o1), .val (.int (Int32.ofNat kk))] [(.ref o0), (.ref o0)])) (fun t k => XS.aloadN X1.here hx rfl (hb hby d6_15) rfl rfl k) ?_
  obtain ⟨T2, X2, e2, st2⟩ := getF X1 hx hZ hown (host := "") (Or.inl (hw _ (List.mem_of_getElem? (i := 55) rfl))) Via.refl eq1 PN (g := (mkF m 16 #[.val (.ref o0), .val (.ref o1), .val (.int (Int32.ofNat kk))] [(.ref o0), (.ref o0)])) rfl rfl (hb hby d6_16)
  refine go _ (T2.setTop (mkF m 19 #[.val (.ref o0), .val (.ref o1), .val (.int (Int32.ofNat kk))] [(.int vc), (.ref o0)])) st2 ?_
  refine go _ (T2.setTop (mkF m 20 #[.val (.ref o0), .val (.ref o1), .val (.int (Int32.ofNat kk))] [(.int (Int32.ofNat kk)), (.int vc), (.ref o0)])) (fun t k => XS.iloadN X2.here hx rfl (hb hby d6_19) rfl k) ?_
  refine go _ (T2.setTop (mkF m 21 #[.val (.ref o0), .val (.ref o1), .val (.int (Int32.ofNat kk))] [(.int (vc + (Int32.ofNat kk))), (.ref o0)])) (fun t k => XS.iadd X2.here hx rfl (hb hby d6_20) rfl k) ?_
  obtain ⟨cq3, kq3, q3a, q3b, q3c⟩ := isOf hZ e2 PE
  obtain ⟨_, _, ⟨T3, L3, k3, n3⟩, -, X3, ⟨Lc3, hQ3, l3, y3, z3⟩, st3⟩ := X2.virtualBack hx (y := (⟨"java/lang/AbstractStringBuilder", "ensureCapacityInternal", "(I)V"⟩ : MethodName)) (z := (⟨"java/lang/AbstractStringBuilder", "ensureCapacityInternal", "(I)V"⟩ : MethodName)) hown (mvT hZ (hw _ (List.mem_of_getElem? (i := 57) rfl))) (mvT hZ (own_decl (hw _ (List.mem_of_getElem? (i := 58) rfl)) (hw _ (List.mem_of_getElem? (i := 61) rfl)))) (notFace_of_selects (args := #[]) (mvT hZ (hw _ (List.mem_of_getElem? (i := 60) rfl)))) (mvT hZ (hw _ (List.mem_of_getElem? (i := 60) rfl))) (mvT hZ (hw _ (List.mem_of_getElem? (i := 58) rfl))) (by decide) (backOf (W := 0) (rm9_a l Z a0 hw [] o0 (vc + (Int32.ofNat kk)) ob g (cc + kk) h0 n0 Z0 PE PC PV PA PX (own_addn Pc (own_n32 (n := kk) (by omega)) (by omega)) B1 B2) hZ (hw _ (List.mem_of_getElem? (i := 61) rfl)) (hw _ (List.mem_of_getElem? (i := 14) rfl)) (by decide) (by decide)) q3a q3c (g := (mkF m 21 #[.val (.ref o0), .val (.ref o1), .val (.int (Int32.ofNat kk))] [(.int (vc + (Int32.ofNat kk))), (.ref o0)])) rfl (by rw [hml]; rfl) (Steps.refl _) (argsL := [(.int (vc + (Int32.ofNat kk)))]) (rest := []) (lenOf own_pd_10 rfl) rfl (by show 2 * 0 + _ ≤ _; exact Nat.le_of_eq rfl) (hb hby d6_21) (fun _ _ => ⟨rfl, e2, (by decide : 0 + 0 ≤ _), (by decide : 0 + 0 ≤ _)⟩)
  dsimp only [Pt.U, Pt.locs, Pt.cells, Pt.slots] at X3 l3 y3 z3 st3 hQ3
  subst l3 y3 z3
  obtain ⟨rfl, Nq3, eq3⟩ := hQ3
  have N3 := Fr.app N1 Nq3
  refine go _ (T3.setTop (mkF m 24 #[.val (.ref o0), .val (.ref o1), .val (.int (Int32.ofNat kk))] [])) (fun t k => st3.trans k) ?_
  refine go _ (T3.setTop (mkF m 25 #[.val (.ref o0), .val (.ref o1), .val (.int (Int32.ofNat kk))] [(.ref o0)])) (fun t k => XS.aloadN X3.here hx rfl (hb hby d6_24) rfl rfl k) ?_
  refine go _ (T3.setTop (mkF m 26 #[.val (.ref o0), .val (.ref o1), .val (.int (Int32.ofNat kk))] [(.ref o0), (.ref o0)])) (fun t k => XS.aloadN X3.here hx rfl (hb hby d6_25) rfl rfl k) ?_
  obtain ⟨T4, X4, e4, st4⟩ := getF X3 hx hZ hown (host := "") (Or.inl (hw _ (List.mem_of_getElem? (i := 55) rfl))) Via.refl eq3 PN (g := (mkF m 26 #[.val (.ref o0), .val (.ref o1), .val (.int (Int32.ofNat kk))] [(.ref o0), (.ref o0)])) rfl rfl (hb hby d6_26)
  refine go _ (T4.setTop (mkF m 29 #[.val (.ref o0), .val (.ref o1), .val (.int (Int32.ofNat kk))] [(.int vc), (.ref o0)])) st4 ?_
  refine go _ (T4.setTop (mkF m 30 #[.val (.ref o0), .val (.ref o1), .val (.int (Int32.ofNat kk))] [(.ref o1), (.int vc), (.ref o0)])) (fun t k => XS.aloadN X4.here hx rfl (hb hby d6_29) rfl rfl k) ?_
  obtain ⟨cq5, kq5, q5a, q5b, q5c⟩ := isOf hZ e4 PE
  obtain ⟨_, _, ⟨T5, L5, k5, n5⟩, -, X5, ⟨Lc5, hQ5, l5, y5, z5⟩, st5⟩ := X4.virtualBack hx (y := (⟨"java/lang/AbstractStringBuilder", "putStringAt", "(ILjava/lang/String;)V"⟩ : MethodName)) (z := (⟨"java/lang/AbstractStringBuilder", "putStringAt", "(ILjava/lang/String;)V"⟩ : MethodName)) hown (mvT hZ (hw _ (List.mem_of_getElem? (i := 62) rfl))) (mvT hZ (own_decl (hw _ (List.mem_of_getElem? (i := 63) rfl)) (hw _ (List.mem_of_getElem? (i := 66) rfl)))) (notFace_of_selects (args := #[]) (mvT hZ (hw _ (List.mem_of_getElem? (i := 65) rfl)))) (mvT hZ (hw _ (List.mem_of_getElem? (i := 65) rfl))) (mvT hZ (hw _ (List.mem_of_getElem? (i := 63) rfl))) (by decide) (backOf (W := 0) (rm10 l Z a0 hw [] o0 vc o1 ob 16 g sb kk f cc h0 n0 Z0 PS PE PC PV PA PX QE QC QV QA Pc (by omega) (by omega) Pgb) hZ (hw _ (List.mem_of_getElem? (i := 66) rfl)) (hw _ (List.mem_of_getElem? (i := 14) rfl)) (by decide) (by decide)) q5a q5c (g := (mkF m 30 #[.val (.ref o0), .val (.ref o1), .val (.int (Int32.ofNat kk))] [(.ref o1), (.int vc), (.ref o0)])) rfl (by rw [hml]; rfl) (Steps.refl _) (argsL := [(.int vc), (.ref o1)]) (rest := []) (lenOf own_pd_11 rfl) rfl (by show 2 * 0 + _ ≤ _; exact Nat.le_of_eq rfl) (hb hby d6_30) (fun _ _ => ⟨rfl, e4, (by decide : 0 + 0 ≤ _), (by decide : 0 + 0 ≤ _)⟩)
  dsimp only [Pt.U, Pt.locs, Pt.cells, Pt.slots] at X5 l5 y5 z5 st5 hQ5
  subst l5 y5 z5
  obtain ⟨rfl, Nq5, K5, Ap5⟩ := hQ5
  have N5 := Fr.app N3 Nq5
  refine go _ (T5.setTop (mkF m 33 #[.val (.ref o0), .val (.ref o1), .val (.int (Int32.ofNat kk))] [])) (fun t k => st5.trans k) ?_
  refine go _ (T5.setTop (mkF m 34 #[.val (.ref o0), .val (.ref o1), .val (.int (Int32.ofNat kk))] [(.ref o0)])) (fun t k => XS.aloadN X5.here hx rfl (hb hby d6_33) rfl rfl k) ?_
  refine go _ (T5.setTop (mkF m 35 #[.val (.ref o0), .val (.ref o1), .val (.int (Int32.ofNat kk))] [(.ref o0), (.ref o0)])) (fun t k => XS.dup X5.here hx rfl (hb hby d6_34) rfl rfl k) ?_
  have F6_count_o0 : Fld Z T5.heap o0 "java/lang/AbstractStringBuilder" "count" "I" (.int vc) := (PN.keep K5 (ninS Ne1 nin0))
  obtain ⟨T7, X7, e7, st7⟩ := getF X5 hx hZ hown (host := "") (Or.inl (hw _ (List.mem_of_getElem? (i := 55) rfl))) Via.refl rfl F6_count_o0 (g := (mkF m 35 #[.val (.ref o0), .val (.ref o1), .val (.int (Int32.ofNat kk))] [(.ref o0), (.ref o0)])) rfl rfl (hb hby d6_35)
  refine go _ (T7.setTop (mkF m 38 #[.val (.ref o0), .val (.ref o1), .val (.int (Int32.ofNat kk))] [(.int vc), (.ref o0)])) st7 ?_
  refine go _ (T7.setTop (mkF m 39 #[.val (.ref o0), .val (.ref o1), .val (.int (Int32.ofNat kk))] [(.int (Int32.ofNat kk)), (.int vc), (.ref o0)])) (fun t k => XS.iloadN X7.here hx rfl (hb hby d6_38) rfl k) ?_
  refine go _ (T7.setTop (mkF m 40 #[.val (.ref o0), .val (.ref o1), .val (.int (Int32.ofNat kk))] [(.int (vc + (Int32.ofNat kk))), (.ref o0)])) (fun t k => XS.iadd X7.here hx rfl (hb hby d6_39) rfl k) ?_
  have E8_o0 : Exa Z T5.heap o0 "java/lang/StringBuilder" := (PE.keep K5)
  obtain ⟨T9, h9, X9, e9, W9, st9⟩ := putF X7 hx hZ hown (host := "") (Or.inl (hw _ (List.mem_of_getElem? (i := 55) rfl))) Via.refl e7 F6_count_o0 E8_o0 (Or.inl (hw _ (List.mem_of_getElem? (i := 56) rfl))) (hw _ (List.mem_of_getElem? (i := 5) rfl)) (ty := .int) (by decide) rfl rfl (g := (mkF m 40 #[.val (.ref o0), .val (.ref o1), .val (.int (Int32.ofNat kk))] [(.int (vc + (Int32.ofNat kk))), (.ref o0)])) rfl rfl (hb hby d6_40)
  have Fw9 : Fld Z h9 o0 "java/lang/AbstractStringBuilder" "count" "I" (.int (vc + (Int32.ofNat kk))) := F6_count_o0.same W9
  have N9 := Fr.snoc X9 N5 Pg
  refine go _ (T9.setTop (mkF m 43 #[.val (.ref o0), .val (.ref o1), .val (.int (Int32.ofNat kk))] [])) st9 ?_
  refine go _ (T9.setTop (mkF m 44 #[.val (.ref o0), .val (.ref o1), .val (.int (Int32.ofNat kk))] [(.ref o0)])) (fun t k => XS.aloadN X9.here hx rfl (hb hby d6_43) rfl rfl k) ?_
  have E10_o0 : Exa Z h9 o0 "java/lang/StringBuilder" := (E8_o0.wr W9)
  have F11_coder_o0 : Fld Z h9 o0 "java/lang/AbstractStringBuilder" "coder" "B" (.int (0 : Int32)) := ((PC.keep K5 (ninS Ne1 nin0)).other W9 (Or.inr (slot_ne (Or.inl (hw _ (List.mem_of_getElem? (i := 25) rfl))) (Or.inl (hw _ (List.mem_of_getElem? (i := 56) rfl))) (by decide) (t := .byte) (t' := .int) (by decide) (by decide))))
  have F12_value_o0 : Fld Z h9 o0 "java/lang/AbstractStringBuilder" "value" "[B" (.ref ob) := ((PV.keep K5 (ninS Ne1 nin0)).other W9 (Or.inr (slot_ne (Or.inl (hw _ (List.mem_of_getElem? (i := 23) rfl))) (Or.inl (hw _ (List.mem_of_getElem? (i := 56) rfl))) (by decide) (t := (.array .byte)) (t' := .int) (by decide) (by decide))))
  have E13_ob : Exa Z h9 ob "[B" := ((PX.keep K5).wr W9)
  have A14_ob : own_Av Z h9 ob .byte 16 (own_app g cc kk f) := (Ap5.other W9 (Ne.symm Ne1))
  refine fin (some (.ref o0)) (mkF m 44 #[.val (.ref o0), .val (.ref o1), .val (.int (Int32.ofNat kk))] [(.ref o0)]) X9 (fun h => by cases h) (fun fs hr => retOut X9 hx (t := (.object "java/lang/AbstractStringBuilder")) hret rfl (Or.inr (Or.inr (Or.inr (Or.inr ⟨rfl, rfl, rfl⟩)))) (hb hby d6_44) hr) ?_ (by decide) (by decide)
  try rw [e9]
  exact ⟨rfl, N9, (((Keep.refl h0 [o0, ob]).trans K5 (allS (Or.inl (List.mem_of_getElem? (i := 1) rfl)) all0)).wr W9 (Or.inl (List.mem_of_getElem? (i := 0) rfl))), E10_o0, F11_coder_o0, Fw9, F12_value_o0, E13_ob, A14_ob⟩
theorem own_ef6_b (m : MethodId) (o0 : Addr) (o1 : Addr) : entryFrame m #[(.ref o0), (.ref o1)] 3 = mkF m 0 #[.val (.ref o0), .val (.ref o1), .unset] [] := by first | (simp [entryFrame, mkF, argsToLocals, Value.category]; done) | rfl
def own_Q6_b (Z : State) (o0 : Addr) (o1 : Addr) (ob : Addr) (g : Nat → Value) (vc : Int32) (cc : Nat) (sb : Addr) (kk : Nat) (f : Nat → Value) (h0 : Heap) (n0 : Nat) (v : Option Value) (h : Heap) (L : List Loc) : Prop := v = some (.ref o0) ∧ Fr n0 L ∧ Keep h0 h [o0] ∧ Exa Z h o0 "java/lang/StringBuilder" ∧ Fld Z h o0 "java/lang/AbstractStringBuilder" "coder" "B" (.int (0 : Int32)) ∧ Fld Z h o0 "java/lang/AbstractStringBuilder" "count" "I" (.int (vc + (Int32.ofNat kk))) ∧ ∃ (nb : Addr) (ff : Nat → Value), h0.size ≤ nb ∧ Fld Z h o0 "java/lang/AbstractStringBuilder" "value" "[B" (.ref nb) ∧ Exa Z h nb "[B" ∧ own_Av Z h nb .byte (max (cc + kk) 34) (own_app ff cc kk f) ∧ ∀ i, i < 16 → ff i = g i
set_option maxRecDepth 65536 in
set_option maxHeartbeats 40000000 in
theorem rm6_b (l : Launch) (Z : State) (a0 : Array Value) (hw : ∀ d ∈ tables_1, d.before a0 Z = true) (ws : List Jvm.Cond) (o0 : Addr) (o1 : Addr) (ob : Addr) (g : Nat → Value) (vc : Int32) (cc : Nat) (sb : Addr) (kk : Nat) (f : Nat → Value) (h0 : Heap) (n0 : Nat) (Z0 : n0 ≤ h0.size) (PS : own_St Z n0 h0) (PE : Exa Z h0 o0 "java/lang/StringBuilder") (PC : Fld Z h0 o0 "java/lang/AbstractStringBuilder" "coder" "B" (.int (0 : Int32))) (PV : Fld Z h0 o0 "java/lang/AbstractStringBuilder" "value" "[B" (.ref ob)) (PA : own_Av Z h0 ob .byte 16 g) (PX : Exa Z h0 ob "[B") (PN : Fld Z h0 o0 "java/lang/AbstractStringBuilder" "count" "I" (.int vc)) (QE : Exa Z h0 o1 "java/lang/String") (QC : Fld Z h0 o1 "java/lang/String" "coder" "B" (.int (0 : Int32))) (QV : Fld Z h0 o1 "java/lang/String" "value" "[B" (.ref sb)) (QA : own_Av Z h0 sb .byte kk f) (Pc : vc.toInt = (cc : Int)) (B1 : 16 < cc + kk) (B2 : cc + kk ≤ 200) (Pg : n0 ≤ o0) (Pgb : n0 ≤ ob) (Ne0 : o0 ≠ o1) (Ne1 : o0 ≠ ob) (Ne2 : o0 ≠ sb) (Ne3 : o1 ≠ ob) (Ne4 : ob ≠ sb) :
    MetFree l (⟨"java/lang/AbstractStringBuilder", "append", "(Ljava/lang/String;)Ljava/lang/AbstractStringBuilder;"⟩ : MethodName) (head1 (Jvm.Cond.code (⟨"java/lang/AbstractStringBuilder", "append", "(Ljava/lang/String;)Ljava/lang/AbstractStringBuilder;"⟩ : MethodName) jdk_68_method_22_code 3 (some (.object "java/lang/AbstractStringBuilder")) :: ws) ({ frames := 4, cells := 1, slots := 200, locals := 62 } : Room)) (fun a U => a = #[(.ref o0), (.ref o1)] ∧ Z.Warmed39 U.vm ∧ U.heap = h0) (fun _ _ _ _ _ => True) (fun _ U o U' => ∃ v L, o = .returned v ∧ own_Q6_b Z o0 o1 ob g vc cc sb kk f h0 n0 v U'.heap L ∧ FrameEnd U o U' L ({ frames := 4, cells := 1, slots := 200, locals := 62 } : Room).cells ({ frames := 4, cells := 1, slots := 200, locals := 62 } : Room).slots) := by
  refine own_metfree (Q := own_Q6_b Z o0 o1 ob g vc cc sb kk f h0 n0) (plainFor_of_name own_pn6) ?_
  intro p e s m below meth c s₁ X0 hx hby hml hret hown hnm hZ e0 G go fin
  have N0 := Fr.nil n0
  refine go _ (s₁.setTop (mkF m 0 #[.val (.ref o0), .val (.ref o1), .unset] [])) (fun t k => castTop (own_ef6_b m o0 o1) k) ?_
  refine go _ (s₁.setTop (mkF m 1 #[.val (.ref o0), .val (.ref o1), .unset] [(.ref o1)])) (fun t k => XS.aloadN X0.here hx rfl (hb hby d6_0) rfl rfl k) ?_
  refine go _ (s₁.setTop (mkF m 9 #[.val (.ref o0), .val (.ref o1), .unset] [])) (fun t k => XS.ifnonnullYes X0.here hx rfl (pc0 := 1) (pc' := 9) rfl (hb hby d6_1) rfl (by decide) (by decide) k) ?_
  refine go _ (s₁.setTop (mkF m 10 #[.val (.ref o0), .val (.ref o1), .unset] [(.ref o1)])) (fun t k => XS.aloadN X0.here hx rfl (hb hby d6_9) rfl rfl k) ?_
  obtain ⟨cq1, kq1, q1a, q1b, q1c⟩ := isOf hZ e0 QE
  obtain ⟨_, _, ⟨T1, L1, k1, n1⟩, -, X1, ⟨Lc1, hQ1, l1, y1, z1⟩, st1⟩ := X0.virtualBack hx (y := (⟨"java/lang/String", "length", "()I"⟩ : MethodName)) (z := (⟨"java/lang/String", "length", "()I"⟩ : MethodName)) hown (mvT hZ (hw _ (List.mem_of_getElem? (i := 42) rfl))) (mvT hZ (hw _ (List.mem_of_getElem? (i := 43) rfl))) (notFace_of_selects (args := #[]) (mvT hZ (hw _ (List.mem_of_getElem? (i := 45) rfl)))) (mvT hZ (hw _ (List.mem_of_getElem? (i := 45) rfl))) (mvT hZ (hw _ (List.mem_of_getElem? (i := 44) rfl))) (by decide) (backOf (W := 0) (rm7 l Z a0 hw [] o1 sb kk f h0 n0 Z0 PS QE QC QV QA (by omega)) hZ (hw _ (List.mem_of_getElem? (i := 46) rfl)) (hw _ (List.mem_of_getElem? (i := 20) rfl)) (by decide) (by decide)) q1a q1c (g := (mkF m 10 #[.val (.ref o0), .val (.ref o1), .unset] [(.ref o1)])) rfl (by rw [hml]; rfl) (Steps.refl _) (argsL := []) (rest := []) (lenOf own_pd_9 rfl) rfl (by show 2 * 0 + _ ≤ _; exact Nat.le_of_eq rfl) (hb hby d6_10) (fun _ _ => ⟨rfl, e0, (by decide : 0 + 0 ≤ _), (by decide : 0 + 0 ≤ _)⟩)
  dsimp only [Pt.U, Pt.locs, Pt.cells, Pt.slots] at X1 l1 y1 z1 st1 hQ1
  subst l1 y1 z1
  obtain ⟨rfl, Nq1, eq1⟩ := hQ1
  have N1 := Fr.app N0 Nq1
  refine go _ (T1.setTop (mkF m 13 #[.val (.ref o0), .val (.ref o1), .unset] [(.int (Int32.ofNat kk))])) (fun t k => st1.trans k) ?_
  refine go _ (T1.setTop (mkF m 14 #[.val (.ref o0), .val (.ref o1), .val (.int (Int32.ofNat kk))] [])) (fun t k => XS.istoreN X1.here hx rfl (hb hby d6_13) rfl (l' := #[.val (.ref o0), .val (.ref o1), .val (.int (Int32.ofNat kk))]) rfl k) ?_
  refine go _ (T1.setTop (mkF m 15 #[.val (.ref o0), .val (.ref o1), .val (.int (Int32.ofNat kk))] [(.ref o0)])) (fun t k => XS.aloadN X1.here hx rfl (hb hby d6_14) rfl rfl k) ?_
  refine go _ (T1.setTop (mkF m 16 #[.val (.ref o0), .val (.ref o1), .val (.int (Int32.ofNat kk))] [(.ref o0), (.ref o0)])) (fun t k => XS.aloadN X1.here hx rfl (hb hby d6_15) rfl rfl k) ?_
  obtain ⟨T2, X2, e2, st2⟩ := getF X1 hx hZ hown (host := "") (Or.inl (hw _ (List.mem_of_getElem? (i := 55) rfl))) Via.refl eq1 PN (g := (mkF m 16 #[.val (.ref o0), .val (.ref o1), .val (.int (Int32.ofNat kk))] [(.ref o0), (.ref o0)])) rfl rfl (hb hby d6_16)
  refine go _ (T2.setTop (mkF m 19 #[.val (.ref o0), .val (.ref o1), .val (.int (Int32.ofNat kk))] [(.int vc), (.ref o0)])) st2 ?_
  refine go _ (T2.setTop (mkF m 20 #[.val (.ref o0), .val (.ref o1), .val (.int (Int32.ofNat kk))] [(.int (Int32.ofNat kk)), (.int vc), (.ref o0)])) (fun t k => XS.iloadN X2.here hx rfl (hb hby d6_19) rfl k) ?_
  refine go _ (T2.setTop (mkF m 21 #[.val (.ref o0), .val (.ref o1), .val (.int (Int32.ofNat kk))] [(.int (vc + (Int32.ofNat kk))), (.ref o0)])) (fun t k => XS.iadd X2.here hx rfl (hb hby d6_20) rfl k) ?_
  obtain ⟨cq3, kq3, q3a, q3b, q3c⟩ := isOf hZ e2 PE
  obtain ⟨_, _, ⟨T3, L3, k3, n3⟩, -, X3, ⟨Lc3, hQ3, l3, y3, z3⟩, st3⟩ := X2.virtualBack hx (y := (⟨"java/lang/AbstractStringBuilder", "ensureCapacityInternal", "(I)V"⟩ : MethodName)) (z := (⟨"java/lang/AbstractStringBuilder", "ensureCapacityInternal", "(I)V"⟩ : MethodName)) hown (mvT hZ (hw _ (List.mem_of_getElem? (i := 57) rfl))) (mvT hZ (own_decl (hw _ (List.mem_of_getElem? (i := 58) rfl)) (hw _ (List.mem_of_getElem? (i := 61) rfl)))) (notFace_of_selects (args := #[]) (mvT hZ (hw _ (List.mem_of_getElem? (i := 60) rfl)))) (mvT hZ (hw _ (List.mem_of_getElem? (i := 60) rfl))) (mvT hZ (hw _ (List.mem_of_getElem? (i := 58) rfl))) (by decide) (backOf (W := 0) (rm9_b l Z a0 hw [] o0 (vc + (Int32.ofNat kk)) ob g (cc + kk) vc h0 n0 Z0 PE PC PV PA PX PN (own_addn Pc (own_n32 (n := kk) (by omega)) (by omega)) B1 B2 Pg Ne1) hZ (hw _ (List.mem_of_getElem? (i := 61) rfl)) (hw _ (List.mem_of_getElem? (i := 14) rfl)) (by decide) (by decide)) q3a q3c (g := (mkF m 21 #[.val (.ref o0), .val (.ref o1), .val (.int (Int32.ofNat kk))] [(.int (vc + (Int32.ofNat kk))), (.ref o0)])) rfl (by rw [hml]; rfl) (Steps.refl _) (argsL := [(.int (vc + (Int32.ofNat kk)))]) (rest := []) (lenOf own_pd_10 rfl) rfl (by show 2 * 0 + _ ≤ _; exact Nat.le_of_eq rfl) (hb hby d6_21) (fun _ _ => ⟨rfl, e2, (by decide : 0 + 1 ≤ _), (by decide : 0 + 200 ≤ _)⟩)
  dsimp only [Pt.U, Pt.locs, Pt.cells, Pt.slots] at X3 l3 y3 z3 st3 hQ3
  subst l3 y3 z3
  obtain ⟨rfl, Nq3, K3, Ex3, Fc3, Fn3, nb3, ff3, sz3, Fv3, Xn3, An3, ag3⟩ := hQ3
  have N3 := Fr.app N1 Nq3
  have ne4_o0_nb3 : o0 ≠ nb3 := Nat.ne_of_lt (Nat.lt_of_lt_of_le PE.lt sz3)
  have ne5_o1_nb3 : o1 ≠ nb3 := Nat.ne_of_lt (Nat.lt_of_lt_of_le QE.lt sz3)
  have ne6_ob_nb3 : ob ≠ nb3 := Nat.ne_of_lt (Nat.lt_of_lt_of_le PX.lt sz3)
  have ne7_sb_nb3 : sb ≠ nb3 := Nat.ne_of_lt (Nat.lt_of_lt_of_le QA.lt sz3)
  have sz_nb3 : h0.size ≤ nb3 := sz3
  have g_nb3 : n0 ≤ nb3 := Nat.le_trans Z0 sz3
  refine go _ (T3.setTop (mkF m 24 #[.val (.ref o0), .val (.ref o1), .val (.int (Int32.ofNat kk))] [])) (fun t k => st3.trans k) ?_
  refine go _ (T3.setTop (mkF m 25 #[.val (.ref o0), .val (.ref o1), .val (.int (Int32.ofNat kk))] [(.ref o0)])) (fun t k => XS.aloadN X3.here hx rfl (hb hby d6_24) rfl rfl k) ?_
  refine go _ (T3.setTop (mkF m 26 #[.val (.ref o0), .val (.ref o1), .val (.int (Int32.ofNat kk))] [(.ref o0), (.ref o0)])) (fun t k => XS.aloadN X3.here hx rfl (hb hby d6_25) rfl rfl k) ?_
  obtain ⟨T8, X8, e8, st8⟩ := getF X3 hx hZ hown (host := "") (Or.inl (hw _ (List.mem_of_getElem? (i := 55) rfl))) Via.refl rfl Fn3 (g := (mkF m 26 #[.val (.ref o0), .val (.ref o1), .val (.int (Int32.ofNat kk))] [(.ref o0), (.ref o0)])) rfl rfl (hb hby d6_26)
  refine go _ (T8.setTop (mkF m 29 #[.val (.ref o0), .val (.ref o1), .val (.int (Int32.ofNat kk))] [(.int vc), (.ref o0)])) st8 ?_
  refine go _ (T8.setTop (mkF m 30 #[.val (.ref o0), .val (.ref o1), .val (.int (Int32.ofNat kk))] [(.ref o1), (.int vc), (.ref o0)])) (fun t k => XS.aloadN X8.here hx rfl (hb hby d6_29) rfl rfl k) ?_
  have E9_o1 : Exa Z T3.heap o1 "java/lang/String" := (QE.keep K3)
  have F10_coder_o1 : Fld Z T3.heap o1 "java/lang/String" "coder" "B" (.int (0 : Int32)) := (QC.keep K3 (ninS (Ne.symm Ne0) nin0))
  have F11_value_o1 : Fld Z T3.heap o1 "java/lang/String" "value" "[B" (.ref sb) := (QV.keep K3 (ninS (Ne.symm Ne0) nin0))
  have A12_sb : own_Av Z T3.heap sb .byte kk f := (QA.keep K3 (ninS (Ne.symm Ne2) nin0))
  have PS13 : own_St Z n0 T3.heap := PS.keep ((Keep.refl h0 [o0]).trans K3 (allS (Or.inl (List.mem_of_getElem? (i := 0) rfl)) all0)) (own_geS Pg own_ge0)
  have Z14z : n0 ≤ T3.heap.size := (Nat.le_trans Z0 K3.1)
  obtain ⟨cq15, kq15, q15a, q15b, q15c⟩ := isOf hZ e8 Ex3
  obtain ⟨_, _, ⟨T15, L15, k15, n15⟩, -, X15, ⟨Lc15, hQ15, l15, y15, z15⟩, st15⟩ := X8.virtualBack hx (y := (⟨"java/lang/AbstractStringBuilder", "putStringAt", "(ILjava/lang/String;)V"⟩ : MethodName)) (z := (⟨"java/lang/AbstractStringBuilder", "putStringAt", "(ILjava/lang/String;)V"⟩ : MethodName)) hown (mvT hZ (hw _ (List.mem_of_getElem? (i := 62) rfl))) (mvT hZ (own_decl (hw _ (List.mem_of_getElem? (i := 63) rfl)) (hw _ (List.mem_of_getElem? (i := 66) rfl)))) (notFace_of_selects (args := #[]) (mvT hZ (hw _ (List.mem_of_getElem? (i := 65) rfl)))) (mvT hZ (hw _ (List.mem_of_getElem? (i := 65) rfl))) (mvT hZ (hw _ (List.mem_of_getElem? (i := 63) rfl))) (by decide) (backOf (W := 0) (rm10 l Z a0 hw [] o0 vc o1 nb3 (max (cc + kk) 34) ff3 sb kk f cc T3.heap n0 Z14z PS13 Ex3 Fc3 Fv3 An3 Xn3 E9_o1 F10_coder_o1 F11_value_o1 A12_sb Pc (by omega) (by omega) g_nb3) hZ (hw _ (List.mem_of_getElem? (i := 66) rfl)) (hw _ (List.mem_of_getElem? (i := 14) rfl)) (by decide) (by decide)) q15a q15c (g := (mkF m 30 #[.val (.ref o0), .val (.ref o1), .val (.int (Int32.ofNat kk))] [(.ref o1), (.int vc), (.ref o0)])) rfl (by rw [hml]; rfl) (Steps.refl _) (argsL := [(.int vc), (.ref o1)]) (rest := []) (lenOf own_pd_11 rfl) rfl (by show 2 * 0 + _ ≤ _; exact Nat.le_of_eq rfl) (hb hby d6_30) (fun _ _ => ⟨rfl, e8, (by decide : 1 + 0 ≤ _), (by decide : 200 + 0 ≤ _)⟩)
  dsimp only [Pt.U, Pt.locs, Pt.cells, Pt.slots] at X15 l15 y15 z15 st15 hQ15
  subst l15 y15 z15
  obtain ⟨rfl, Nq15, K15, Ap15⟩ := hQ15
  have N15 := Fr.app N3 Nq15
  refine go _ (T15.setTop (mkF m 33 #[.val (.ref o0), .val (.ref o1), .val (.int (Int32.ofNat kk))] [])) (fun t k => st15.trans k) ?_
  refine go _ (T15.setTop (mkF m 34 #[.val (.ref o0), .val (.ref o1), .val (.int (Int32.ofNat kk))] [(.ref o0)])) (fun t k => XS.aloadN X15.here hx rfl (hb hby d6_33) rfl rfl k) ?_
  refine go _ (T15.setTop (mkF m 35 #[.val (.ref o0), .val (.ref o1), .val (.int (Int32.ofNat kk))] [(.ref o0), (.ref o0)])) (fun t k => XS.dup X15.here hx rfl (hb hby d6_34) rfl rfl k) ?_
  have F16_count_o0 : Fld Z T15.heap o0 "java/lang/AbstractStringBuilder" "count" "I" (.int vc) := (Fn3.keep K15 (ninS ne4_o0_nb3 nin0))
  obtain ⟨T17, X17, e17, st17⟩ := getF X15 hx hZ hown (host := "") (Or.inl (hw _ (List.mem_of_getElem? (i := 55) rfl))) Via.refl rfl F16_count_o0 (g := (mkF m 35 #[.val (.ref o0), .val (.ref o1), .val (.int (Int32.ofNat kk))] [(.ref o0), (.ref o0)])) rfl rfl (hb hby d6_35)
  refine go _ (T17.setTop (mkF m 38 #[.val (.ref o0), .val (.ref o1), .val (.int (Int32.ofNat kk))] [(.int vc), (.ref o0)])) st17 ?_
  refine go _ (T17.setTop (mkF m 39 #[.val (.ref o0), .val (.ref o1), .val (.int (Int32.ofNat kk))] [(.int (Int32.ofNat kk)), (.int vc), (.ref o0)])) (fun t k => XS.iloadN X17.here hx rfl (hb hby d6_38) rfl k) ?_
  refine go _ (T17.setTop (mkF m 40 #[.val (.ref o0), .val (.ref o1), .val (.int (Int32.ofNat kk))] [(.int (vc + (Int32.ofNat kk))), (.ref o0)])) (fun t k => XS.iadd X17.here hx rfl (hb hby d6_39) rfl k) ?_
  have E18_o0 : Exa Z T15.heap o0 "java/lang/StringBuilder" := (Ex3.keep K15)
  obtain ⟨T19, h19, X19, e19, W19, st19⟩ := putF X17 hx hZ hown (host := "") (Or.inl (hw _ (List.mem_of_getElem? (i := 55) rfl))) Via.refl e17 F16_count_o0 E18_o0 (Or.inl (hw _ (List.mem_of_getElem? (i := 56) rfl))) (hw _ (List.mem_of_getElem? (i := 5) rfl)) (ty := .int) (by decide) rfl rfl (g := (mkF m 40 #[.val (.ref o0), .val (.ref o1), .val (.int (Int32.ofNat kk))] [(.int (vc + (Int32.ofNat kk))), (.ref o0)])) rfl rfl (hb hby d6_40)
  have Fw19 : Fld Z h19 o0 "java/lang/AbstractStringBuilder" "count" "I" (.int (vc + (Int32.ofNat kk))) := F16_count_o0.same W19
  have N19 := Fr.snoc X19 N15 Pg
  refine go _ (T19.setTop (mkF m 43 #[.val (.ref o0), .val (.ref o1), .val (.int (Int32.ofNat kk))] [])) st19 ?_
  refine go _ (T19.setTop (mkF m 44 #[.val (.ref o0), .val (.ref o1), .val (.int (Int32.ofNat kk))] [(.ref o0)])) (fun t k => XS.aloadN X19.here hx rfl (hb hby d6_43) rfl rfl k) ?_
  have E20_o0 : Exa Z h19 o0 "java/lang/StringBuilder" := (E18_o0.wr W19)
  have F21_coder_o0 : Fld Z h19 o0 "java/lang/AbstractStringBuilder" "coder" "B" (.int (0 : Int32)) := ((Fc3.keep K15 (ninS ne4_o0_nb3 nin0)).other W19 (Or.inr (slot_ne (Or.inl (hw _ (List.mem_of_getElem? (i := 25) rfl))) (Or.inl (hw _ (List.mem_of_getElem? (i := 56) rfl))) (by decide) (t := .byte) (t' := .int) (by decide) (by decide))))
  have F22_value_o0 : Fld Z h19 o0 "java/lang/AbstractStringBuilder" "value" "[B" (.ref nb3) := ((Fv3.keep K15 (ninS ne4_o0_nb3 nin0)).other W19 (Or.inr (slot_ne (Or.inl (hw _ (List.mem_of_getElem? (i := 23) rfl))) (Or.inl (hw _ (List.mem_of_getElem? (i := 56) rfl))) (by decide) (t := (.array .byte)) (t' := .int) (by decide) (by decide))))
  have E23_nb3 : Exa Z h19 nb3 "[B" := ((Xn3.keep K15).wr W19)
  have A24_nb3 : own_Av Z h19 nb3 .byte (max (cc + kk) 34) (own_app ff3 cc kk f) := (Ap15.other W19 (Ne.symm ne4_o0_nb3))
  refine fin (some (.ref o0)) (mkF m 44 #[.val (.ref o0), .val (.ref o1), .val (.int (Int32.ofNat kk))] [(.ref o0)]) X19 (fun h => by cases h) (fun fs hr => retOut X19 hx (t := (.object "java/lang/AbstractStringBuilder")) hret rfl (Or.inr (Or.inr (Or.inr (Or.inr ⟨rfl, rfl, rfl⟩)))) (hb hby d6_44) hr) ?_ (by decide) (by decide)
  try rw [e19]
  exact ⟨rfl, N19, ((((Keep.refl h0 [o0]).trans K3 (allS (Or.inl (List.mem_of_getElem? (i := 0) rfl)) all0)).trans K15 (allS (Or.inr sz_nb3) all0)).wr W19 (Or.inl (List.mem_of_getElem? (i := 0) rfl))), E20_o0, F21_coder_o0, Fw19, nb3, _, sz_nb3, F22_value_o0, E23_nb3, A24_nb3, ag3⟩
theorem own_ef5_a (m : MethodId) (o0 : Addr) (o1 : Addr) : entryFrame m #[(.ref o0), (.ref o1)] 2 = mkF m 0 #[.val (.ref o0), .val (.ref o1)] [] := by first | (simp [entryFrame, mkF, argsToLocals, Value.category]; done) | rfl
theorem own_pn5 : plainName "java/lang/StringBuilder" = true := by first | (simp [plainName, overriddenIn]; done) | decide +kernel
theorem d5_0 : decode jdk_67_method_7_code 0 = .ok (.aload_n 0, 1) := by decide +kernel
theorem d5_1 : decode jdk_67_method_7_code 1 = .ok (.aload_n 1, 1) := by decide +kernel
theorem d5_2 : decode jdk_67_method_7_code 2 = .ok (.invokespecial 29, 3) := by decide +kernel
theorem own_pd_12 : parseMethodDescriptor "(Ljava/lang/String;)Ljava/lang/AbstractStringBuilder;" = some ⟨[(.object "java/lang/String")], some (.object "java/lang/AbstractStringBuilder")⟩ := by decide +kernel
theorem d5_5 : decode jdk_67_method_7_code 5 = .ok (.pop, 1) := by decide +kernel
theorem d5_6 : decode jdk_67_method_7_code 6 = .ok (.aload_n 0, 1) := by decide +kernel
theorem d5_7 : decode jdk_67_method_7_code 7 = .ok (.areturn, 1) := by decide +kernel
def own_Q5_a (Z : State) (o0 : Addr) (o1 : Addr) (ob : Addr) (g : Nat → Value) (vc : Int32) (cc : Nat) (sb : Addr) (kk : Nat) (f : Nat → Value) (h0 : Heap) (n0 : Nat) (v : Option Value) (h : Heap) (L : List Loc) : Prop := v = some (.ref o0) ∧ Fr n0 L ∧ Keep h0 h [o0, ob] ∧ Exa Z h o0 "java/lang/StringBuilder" ∧ Fld Z h o0 "java/lang/AbstractStringBuilder" "coder" "B" (.int (0 : Int32)) ∧ Fld Z h o0 "java/lang/AbstractStringBuilder" "count" "I" (.int (vc + (Int32.ofNat kk))) ∧ Fld Z h o0 "java/lang/AbstractStringBuilder" "value" "[B" (.ref ob) ∧ Exa Z h ob "[B" ∧ own_Av Z h ob .byte 16 (own_app g cc kk f)
set_option maxRecDepth 65536 in
set_option maxHeartbeats 40000000 in
theorem rm5_a (l : Launch) (Z : State) (a0 : Array Value) (hw : ∀ d ∈ tables_1, d.before a0 Z = true) (ws : List Jvm.Cond) (o0 : Addr) (o1 : Addr) (ob : Addr) (g : Nat → Value) (vc : Int32) (cc : Nat) (sb : Addr) (kk : Nat) (f : Nat → Value) (h0 : Heap) (n0 : Nat) (Z0 : n0 ≤ h0.size) (PS : own_St Z n0 h0) (PE : Exa Z h0 o0 "java/lang/StringBuilder") (PC : Fld Z h0 o0 "java/lang/AbstractStringBuilder" "coder" "B" (.int (0 : Int32))) (PV : Fld Z h0 o0 "java/lang/AbstractStringBuilder" "value" "[B" (.ref ob)) (PA : own_Av Z h0 ob .byte 16 g) (PX : Exa Z h0 ob "[B") (PN : Fld Z h0 o0 "java/lang/AbstractStringBuilder" "count" "I" (.int vc)) (QE : Exa Z h0 o1 "java/lang/String") (QC : Fld Z h0 o1 "java/lang/String" "coder" "B" (.int (0 : Int32))) (QV : Fld Z h0 o1 "java/lang/String" "value" "[B" (.ref sb)) (QA : own_Av Z h0 sb .byte kk f) (Pc : vc.toInt = (cc : Int)) (B1 : cc + kk ≤ 16) (B2 : cc + kk ≤ 200) (Pg : n0 ≤ o0) (Pgb : n0 ≤ ob) (Ne0 : o0 ≠ o1) (Ne1 : o0 ≠ ob) (Ne2 : o0 ≠ sb) (Ne3 : o1 ≠ ob) (Ne4 : ob ≠ sb) :
    MetFree l (⟨"java/lang/StringBuilder", "append", "(Ljava/lang/String;)Ljava/lang/StringBuilder;"⟩ : MethodName) (head1 (Jvm.Cond.code (⟨"java/lang/StringBuilder", "append", "(Ljava/lang/String;)Ljava/lang/StringBuilder;"⟩ : MethodName) jdk_67_method_7_code 2 (some (.object "java/lang/StringBuilder")) :: ws) ({ frames := 4, cells := 0, slots := 0, locals := 61 } : Room)) (fun a U => a = #[(.ref o0), (.ref o1)] ∧ Z.Warmed39 U.vm ∧ U.heap = h0) (fun _ _ _ _ _ => True) (fun _ U o U' => ∃ v L, o = .returned v ∧ own_Q5_a Z o0 o1 ob g vc cc sb kk f h0 n0 v U'.heap L ∧ FrameEnd U o U' L ({ frames := 4, cells := 0, slots := 0, locals := 61 } : Room).cells ({ frames := 4, cells := 0, slots := 0, locals := 61 } : Room).slots) := by
  refine own_metfree (Q := own_Q5_a Z o0 o1 ob g vc cc sb kk f h0 n0) (plainFor_of_name own_pn5) ?_
  intro p e s m below meth c s₁ X0 hx hby hml hret hown hnm hZ e0 G go fin
  have N0 := Fr.nil n0
  refine go _ (s₁.setTop (mkF m 0 #[.val (.ref o0), .val (.ref o1)] [])) (fun t k => castTop (own_ef5_a m o0 o1) k) ?_
  refine go _ (s₁.setTop (mkF m 1 #[.val (.ref o0), .val (.ref o1)] [(.ref o0)])) (fun t k => XS.aloadN X0.here hx rfl (hb hby d5_0) rfl rfl k) ?_
  refine go _ (s₁.setTop (mkF m 2 #[.val (.ref o0), .val (.ref o1)] [(.ref o1), (.ref o0)])) (fun t k => XS.aloadN X0.here hx rfl (hb hby d5_1) rfl rfl k) ?_
  obtain ⟨_, _, ⟨T1, L1, k1, n1⟩, -, X1, ⟨Lc1, hQ1, l1, y1, z1⟩, st1⟩ := superBack (K := "java/lang/StringBuilder") X0 hx hZ (y := (⟨"java/lang/AbstractStringBuilder", "append", "(Ljava/lang/String;)Ljava/lang/AbstractStringBuilder;"⟩ : MethodName)) hown (hw _ (List.mem_of_getElem? (i := 37) rfl)) (own_same (hw _ (List.mem_of_getElem? (i := 40) rfl)) (hw _ (List.mem_of_getElem? (i := 60) rfl)) rfl (by decide)) (hw _ (List.mem_of_getElem? (i := 38) rfl)) (hw _ (List.mem_of_getElem? (i := 39) rfl)) (by decide) (backOf (W := 0) (rm6_a l Z a0 hw [] o0 o1 ob g vc cc sb kk f h0 n0 Z0 PS PE PC PV PA PX PN QE QC QV QA Pc B1 B2 Pg Pgb Ne0 Ne1 Ne2 Ne3 Ne4) hZ (hw _ (List.mem_of_getElem? (i := 41) rfl)) (hw _ (List.mem_of_getElem? (i := 14) rfl)) (by decide) (by decide)) e0 (Ins.self PE) (g := (mkF m 2 #[.val (.ref o0), .val (.ref o1)] [(.ref o1), (.ref o0)])) rfl (by rw [hml]; rfl) (hw _ (List.mem_of_getElem? (i := 41) rfl)) (argsL := [(.ref o1)]) (rest := []) (lenOf own_pd_12 rfl) rfl (by show 2 * 0 + _ ≤ _; exact Nat.le_of_eq rfl) (hb hby d5_2) (fun _ _ => ⟨rfl, e0, (by decide : 0 + 0 ≤ _), (by decide : 0 + 0 ≤ _)⟩)
  dsimp only [Pt.U, Pt.locs, Pt.cells, Pt.slots] at X1 l1 y1 z1 st1 hQ1
  subst l1 y1 z1
  obtain ⟨rfl, Nq1, K1, Ex1, Fc1, Fn1, Fv1, Xn1, An1⟩ := hQ1
  have N1 := Fr.app N0 Nq1
  refine go _ (T1.setTop (mkF m 5 #[.val (.ref o0), .val (.ref o1)] [(.ref o0)])) (fun t k => st1.trans k) ?_
  refine go _ (T1.setTop (mkF m 6 #[.val (.ref o0), .val (.ref o1)] [])) (fun t k => XS.pop X1.here hx rfl (hb hby d5_5) rfl rfl k) ?_
  refine go _ (T1.setTop (mkF m 7 #[.val (.ref o0), .val (.ref o1)] [(.ref o0)])) (fun t k => XS.aloadN X1.here hx rfl (hb hby d5_6) rfl rfl k) ?_
  refine fin (some (.ref o0)) (mkF m 7 #[.val (.ref o0), .val (.ref o1)] [(.ref o0)]) X1 (fun h => by cases h) (fun fs hr => retOut X1 hx (t := (.object "java/lang/StringBuilder")) hret rfl (Or.inr (Or.inr (Or.inr (Or.inr ⟨rfl, rfl, rfl⟩)))) (hb hby d5_7) hr) ?_ (by decide) (by decide)
  exact ⟨rfl, N1, ((Keep.refl h0 [o0, ob]).trans K1 (allS (Or.inl (List.mem_of_getElem? (i := 0) rfl)) (allS (Or.inl (List.mem_of_getElem? (i := 1) rfl)) all0))), Ex1, Fc1, Fn1, Fv1, Xn1, An1⟩
theorem own_ef5_b (m : MethodId) (o0 : Addr) (o1 : Addr) : entryFrame m #[(.ref o0), (.ref o1)] 2 = mkF m 0 #[.val (.ref o0), .val (.ref o1)] [] := by first | (simp [entryFrame, mkF, argsToLocals, Value.category]; done) | rfl
def own_Q5_b (Z : State) (o0 : Addr) (o1 : Addr) (ob : Addr) (g : Nat → Value) (vc : Int32) (cc : Nat) (sb : Addr) (kk : Nat) (f : Nat → Value) (h0 : Heap) (n0 : Nat) (v : Option Value) (h : Heap) (L : List Loc) : Prop := v = some (.ref o0) ∧ Fr n0 L ∧ Keep h0 h [o0] ∧ Exa Z h o0 "java/lang/StringBuilder" ∧ Fld Z h o0 "java/lang/AbstractStringBuilder" "coder" "B" (.int (0 : Int32)) ∧ Fld Z h o0 "java/lang/AbstractStringBuilder" "count" "I" (.int (vc + (Int32.ofNat kk))) ∧ ∃ (nb : Addr) (ff : Nat → Value), h0.size ≤ nb ∧ Fld Z h o0 "java/lang/AbstractStringBuilder" "value" "[B" (.ref nb) ∧ Exa Z h nb "[B" ∧ own_Av Z h nb .byte (max (cc + kk) 34) (own_app ff cc kk f) ∧ ∀ i, i < 16 → ff i = g i
set_option maxRecDepth 65536 in
set_option maxHeartbeats 40000000 in
theorem rm5_b (l : Launch) (Z : State) (a0 : Array Value) (hw : ∀ d ∈ tables_1, d.before a0 Z = true) (ws : List Jvm.Cond) (o0 : Addr) (o1 : Addr) (ob : Addr) (g : Nat → Value) (vc : Int32) (cc : Nat) (sb : Addr) (kk : Nat) (f : Nat → Value) (h0 : Heap) (n0 : Nat) (Z0 : n0 ≤ h0.size) (PS : own_St Z n0 h0) (PE : Exa Z h0 o0 "java/lang/StringBuilder") (PC : Fld Z h0 o0 "java/lang/AbstractStringBuilder" "coder" "B" (.int (0 : Int32))) (PV : Fld Z h0 o0 "java/lang/AbstractStringBuilder" "value" "[B" (.ref ob)) (PA : own_Av Z h0 ob .byte 16 g) (PX : Exa Z h0 ob "[B") (PN : Fld Z h0 o0 "java/lang/AbstractStringBuilder" "count" "I" (.int vc)) (QE : Exa Z h0 o1 "java/lang/String") (QC : Fld Z h0 o1 "java/lang/String" "coder" "B" (.int (0 : Int32))) (QV : Fld Z h0 o1 "java/lang/String" "value" "[B" (.ref sb)) (QA : own_Av Z h0 sb .byte kk f) (Pc : vc.toInt = (cc : Int)) (B1 : 16 < cc + kk) (B2 : cc + kk ≤ 200) (Pg : n0 ≤ o0) (Pgb : n0 ≤ ob) (Ne0 : o0 ≠ o1) (Ne1 : o0 ≠ ob) (Ne2 : o0 ≠ sb) (Ne3 : o1 ≠ ob) (Ne4 : ob ≠ sb) :
    MetFree l (⟨"java/lang/StringBuilder", "append", "(Ljava/lang/String;)Ljava/lang/StringBuilder;"⟩ : MethodName) (head1 (Jvm.Cond.code (⟨"java/lang/StringBuilder", "append", "(Ljava/lang/String;)Ljava/lang/StringBuilder;"⟩ : MethodName) jdk_67_method_7_code 2 (some (.object "java/lang/StringBuilder")) :: ws) ({ frames := 5, cells := 1, slots := 200, locals := 76 } : Room)) (fun a U => a = #[(.ref o0), (.ref o1)] ∧ Z.Warmed39 U.vm ∧ U.heap = h0) (fun _ _ _ _ _ => True) (fun _ U o U' => ∃ v L, o = .returned v ∧ own_Q5_b Z o0 o1 ob g vc cc sb kk f h0 n0 v U'.heap L ∧ FrameEnd U o U' L ({ frames := 5, cells := 1, slots := 200, locals := 76 } : Room).cells ({ frames := 5, cells := 1, slots := 200, locals := 76 } : Room).slots) := by
  refine own_metfree (Q := own_Q5_b Z o0 o1 ob g vc cc sb kk f h0 n0) (plainFor_of_name own_pn5) ?_
  intro p e s m below meth c s₁ X0 hx hby hml hret hown hnm hZ e0 G go fin
  have N0 := Fr.nil n0
  refine go _ (s₁.setTop (mkF m 0 #[.val (.ref o0), .val (.ref o1)] [])) (fun t k => castTop (own_ef5_b m o0 o1) k) ?_
  refine go _ (s₁.setTop (mkF m 1 #[.val (.ref o0), .val (.ref o1)] [(.ref o0)])) (fun t k => XS.aloadN X0.here hx rfl (hb hby d5_0) rfl rfl k) ?_
  refine go _ (s₁.setTop (mkF m 2 #[.val (.ref o0), .val (.ref o1)] [(.ref o1), (.ref o0)])) (fun t k => XS.aloadN X0.here hx rfl (hb hby d5_1) rfl rfl k) ?_
  obtain ⟨_, _, ⟨T1, L1, k1, n1⟩, -, X1, ⟨Lc1, hQ1, l1, y1, z1⟩, st1⟩ := superBack (K := "java/lang/StringBuilder") X0 hx hZ (y := (⟨"java/lang/AbstractStringBuilder", "append", "(Ljava/lang/String;)Ljava/lang/AbstractStringBuilder;"⟩ : MethodName)) hown (hw _ (List.mem_of_getElem? (i := 37) rfl)) (own_same (hw _ (List.mem_of_getElem? (i := 40) rfl)) (hw _ (List.mem_of_getElem? (i := 60) rfl)) rfl (by decide)) (hw _ (List.mem_of_getElem? (i := 38) rfl)) (hw _ (List.mem_of_getElem? (i := 39) rfl)) (by decide) (backOf (W := 0) (rm6_b l Z a0 hw [] o0 o1 ob g vc cc sb kk f h0 n0 Z0 PS PE PC PV PA PX PN QE QC QV QA Pc B1 B2 Pg Pgb Ne0 Ne1 Ne2 Ne3 Ne4) hZ (hw _ (List.mem_of_getElem? (i := 41) rfl)) (hw _ (List.mem_of_getElem? (i := 14) rfl)) (by decide) (by decide)) e0 (Ins.self PE) (g := (mkF m 2 #[.val (.ref o0), .val (.ref o1)] [(.ref o1), (.ref o0)])) rfl (by rw [hml]; rfl) (hw _ (List.mem_of_getElem? (i := 41) rfl)) (argsL := [(.ref o1)]) (rest := []) (lenOf own_pd_12 rfl) rfl (by show 2 * 0 + _ ≤ _; exact Nat.le_of_eq rfl) (hb hby d5_2) (fun _ _ => ⟨rfl, e0, (by decide : 0 + 1 ≤ _), (by decide : 0 + 200 ≤ _)⟩)
  dsimp only [Pt.U, Pt.locs, Pt.cells, Pt.slots] at X1 l1 y1 z1 st1 hQ1
  subst l1 y1 z1
  obtain ⟨rfl, Nq1, K1, Ex1, Fc1, Fn1, nb1, ff1, sz1, Fv1, Xn1, An1, ag1⟩ := hQ1
  have N1 := Fr.app N0 Nq1
  have ne2_o0_nb1 : o0 ≠ nb1 := Nat.ne_of_lt (Nat.lt_of_lt_of_le PE.lt sz1)
  have ne3_o1_nb1 : o1 ≠ nb1 := Nat.ne_of_lt (Nat.lt_of_lt_of_le QE.lt sz1)
  have ne4_ob_nb1 : ob ≠ nb1 := Nat.ne_of_lt (Nat.lt_of_lt_of_le PX.lt sz1)
  have ne5_sb_nb1 : sb ≠ nb1 := Nat.ne_of_lt (Nat.lt_of_lt_of_le QA.lt sz1)
  have sz_nb1 : h0.size ≤ nb1 := sz1
  have g_nb1 : n0 ≤ nb1 := Nat.le_trans Z0 sz1
  refine go _ (T1.setTop (mkF m 5 #[.val (.ref o0), .val (.ref o1)] [(.ref o0)])) (fun t k => st1.trans k) ?_
  refine go _ (T1.setTop (mkF m 6 #[.val (.ref o0), .val (.ref o1)] [])) (fun t k => XS.pop X1.here hx rfl (hb hby d5_5) rfl rfl k) ?_
  refine go _ (T1.setTop (mkF m 7 #[.val (.ref o0), .val (.ref o1)] [(.ref o0)])) (fun t k => XS.aloadN X1.here hx rfl (hb hby d5_6) rfl rfl k) ?_
  refine fin (some (.ref o0)) (mkF m 7 #[.val (.ref o0), .val (.ref o1)] [(.ref o0)]) X1 (fun h => by cases h) (fun fs hr => retOut X1 hx (t := (.object "java/lang/StringBuilder")) hret rfl (Or.inr (Or.inr (Or.inr (Or.inr ⟨rfl, rfl, rfl⟩)))) (hb hby d5_7) hr) ?_ (by decide) (by decide)
  exact ⟨rfl, N1, ((Keep.refl h0 [o0]).trans K1 (allS (Or.inl (List.mem_of_getElem? (i := 0) rfl)) all0)), Ex1, Fc1, Fn1, nb1, _, sz_nb1, Fv1, Xn1, An1, ag1⟩
theorem own_ef3 (m : MethodId) (o0 : Addr) (p1 : Int32) : entryFrame m #[(.ref o0), (.int p1)] 2 = mkF m 0 #[.val (.ref o0), .val (.int p1)] [] := by first | (simp [entryFrame, mkF, argsToLocals, Value.category]; done) | rfl
theorem own_pn3 : plainName "java/lang/AbstractStringBuilder" = true := by first | (simp [plainName, overriddenIn]; done) | decide +kernel
theorem d3_0 : decode jdk_68_method_2_code 0 = .ok (.aload_n 0, 1) := by decide +kernel
theorem d3_1 : decode jdk_68_method_2_code 1 = .ok (.invokespecial 3, 3) := by decide +kernel
theorem d3_4 : decode jdk_68_method_2_code 4 = .ok (.getstatic 18, 3) := by decide +kernel
theorem d3_7 : decode jdk_68_method_2_code 7 = .ok (.ifCond .eq 18, 3) := by decide +kernel
theorem d3_10 : decode jdk_68_method_2_code 10 = .ok (.aload_n 0, 1) := by decide +kernel
theorem d3_11 : decode jdk_68_method_2_code 11 = .ok (.iload_n 1, 1) := by decide +kernel
theorem d3_12 : decode jdk_68_method_2_code 12 = .ok (.newarray .byte, 2) := by decide +kernel
theorem d3_14 : decode jdk_68_method_2_code 14 = .ok (.putfield 15, 3) := by decide +kernel
theorem d3_17 : decode jdk_68_method_2_code 17 = .ok (.aload_n 0, 1) := by decide +kernel
theorem d3_18 : decode jdk_68_method_2_code 18 = .ok (.iconst 0, 1) := by decide +kernel
theorem d3_19 : decode jdk_68_method_2_code 19 = .ok (.putfield 22, 3) := by decide +kernel
theorem d3_22 : decode jdk_68_method_2_code 22 = .ok (.goto 16, 3) := by decide +kernel
theorem d3_38 : decode jdk_68_method_2_code 38 = .ok (.return_, 1) := by decide +kernel
def own_Q3 (Z : State) (o0 : Addr) (p1 : Int32) (h0 : Heap) (n0 : Nat) (v : Option Value) (h : Heap) (L : List Loc) : Prop := v = none ∧ Fr n0 L ∧ Keep h0 h [o0] ∧ Exa Z h o0 "java/lang/StringBuilder" ∧ Fld Z h o0 "java/lang/AbstractStringBuilder" "coder" "B" (.int (0 : Int32)) ∧ Fld Z h o0 "java/lang/AbstractStringBuilder" "count" "I" (.int (0 : Int32)) ∧ ∃ nb : Addr, h0.size ≤ nb ∧ Fld Z h o0 "java/lang/AbstractStringBuilder" "value" "[B" (.ref nb) ∧ Exa Z h nb "[B" ∧ own_Av Z h nb .byte 16 (fun _ => (.int 0))
set_option maxRecDepth 65536 in
set_option maxHeartbeats 40000000 in
theorem rm3 (l : Launch) (Z : State) (a0 : Array Value) (hw : ∀ d ∈ tables_1, d.before a0 Z = true) (ws : List Jvm.Cond) (o0 : Addr) (p1 : Int32) (h0 : Heap) (n0 : Nat) (Z0 : n0 ≤ h0.size) (PS : own_St Z n0 h0) (PE : Exa Z h0 o0 "java/lang/StringBuilder") (PV : Fld Z h0 o0 "java/lang/AbstractStringBuilder" "value" "[B" .null) (PC : Fld Z h0 o0 "java/lang/AbstractStringBuilder" "coder" "B" (.int (0 : Int32))) (PN : Fld Z h0 o0 "java/lang/AbstractStringBuilder" "count" "I" (.int (0 : Int32))) (Pg : n0 ≤ o0) (Pz : p1 = (16 : Int32)) :
    MetFree l (⟨"java/lang/AbstractStringBuilder", "<init>", "(I)V"⟩ : MethodName) (head1 (Jvm.Cond.code (⟨"java/lang/AbstractStringBuilder", "<init>", "(I)V"⟩ : MethodName) jdk_68_method_2_code 2 none :: ws) ({ frames := 1, cells := 1, slots := 16, locals := 12 } : Room)) (fun a U => a = #[(.ref o0), (.int p1)] ∧ Z.Warmed39 U.vm ∧ U.heap = h0) (fun _ _ _ _ _ => True) (fun _ U o U' => ∃ v L, o = .returned v ∧ own_Q3 Z o0 p1 h0 n0 v U'.heap L ∧ FrameEnd U o U' L ({ frames := 1, cells := 1, slots := 16, locals := 12 } : Room).cells ({ frames := 1, cells := 1, slots := 16, locals := 12 } : Room).slots) := by
  refine own_metfree (Q := own_Q3 Z o0 p1 h0 n0) (plainFor_of_name own_pn3) ?_
  intro p e s m below meth c s₁ X0 hx hby hml hret hown hnm hZ e0 G go fin
  have N0 := Fr.nil n0
  refine go _ (s₁.setTop (mkF m 0 #[.val (.ref o0), .val (.int p1)] [])) (fun t k => castTop (own_ef3 m o0 p1) k) ?_
  rw [Pz]
  refine go _ (s₁.setTop (mkF m 1 #[.val (.ref o0), .val (.int (16 : Int32))] [(.ref o0)])) (fun t k => XS.aloadN X0.here hx rfl (hb hby d3_0) rfl rfl k) ?_
  obtain ⟨T1, X1, e1, st1⟩ := initO X0 hx hZ hown (hw _ (List.mem_of_getElem? (i := 16) rfl)) (hw _ (List.mem_of_getElem? (i := 17) rfl)) (hw _ (List.mem_of_getElem? (i := 18) rfl)) e0 (g := (mkF m 1 #[.val (.ref o0), .val (.int (16 : Int32))] [(.ref o0)])) rfl (by rw [hml]; rfl) rfl (hb hby d3_1) (by decide) (W := 0) (by show 2 * 0 + _ ≤ _; exact Nat.le_of_eq rfl) (by decide)
  refine go _ (T1.setTop (mkF m 4 #[.val (.ref o0), .val (.int (16 : Int32))] [])) st1 ?_
  obtain ⟨⟨vz2, hz2, Sz2⟩, -⟩ := (id PS)
  obtain ⟨T2, X2, e2, st2⟩ := getS (host := "") X1 hx hZ hown (hw _ (List.mem_of_getElem? (i := 19) rfl)) Via.refl e1 Sz2.sta (g := (mkF m 4 #[.val (.ref o0), .val (.int (16 : Int32))] [])) rfl (hb hby d3_4)
  refine go _ (T2.setTop (mkF m 7 #[.val (.ref o0), .val (.int (16 : Int32))] [(.int vz2)])) st2 ?_
  have hc7 : ¬ (vz2 = (0 : Int32)) := by exact hz2
  refine go _ (T2.setTop (mkF m 10 #[.val (.ref o0), .val (.int (16 : Int32))] [])) (fun t k => XS.ifNo X2.here hx rfl (hb hby d3_7) rfl ((if0 _ _).trans (feq hc7).1) k) ?_
  refine go _ (T2.setTop (mkF m 11 #[.val (.ref o0), .val (.int (16 : Int32))] [(.ref o0)])) (fun t k => XS.aloadN X2.here hx rfl (hb hby d3_10) rfl rfl k) ?_
  refine go _ (T2.setTop (mkF m 12 #[.val (.ref o0), .val (.int (16 : Int32))] [(.int (16 : Int32)), (.ref o0)])) (fun t k => XS.iloadN X2.here hx rfl (hb hby d3_11) rfl k) ?_
  obtain ⟨T3, h3, kk3, X3, e3, E3, Ar3, Ax3, st3⟩ := newPE X2 hx hZ (hw _ (List.mem_of_getElem? (i := 21) rfl)) e2 (g := (mkF m 12 #[.val (.ref o0), .val (.int (16 : Int32))] [(.int (16 : Int32)), (.ref o0)])) rfl (hb hby d3_12) rfl (by decide) (cap := 16) (by decide) (by decide) (by decide) (by decide) (ad := "[B") (by first | rfl | decide)
  obtain ⟨b3, gb3⟩ : ∃ z, z = h0.size := ⟨_, rfl⟩
  rw [← gb3] at Ar3 Ax3 st3
  have ne4_o0_b3 : o0 ≠ b3 := Nat.ne_of_lt (Nat.lt_of_lt_of_le PE.lt (Nat.le_of_eq gb3.symm))
  have g_b3 : n0 ≤ b3 := Nat.le_trans Z0 (Nat.le_of_eq gb3.symm)
  have sz_b3 : h0.size ≤ b3 := (Nat.le_of_eq gb3.symm)
  have Av3 : own_Av Z h3 b3 .byte 16 (fun _ => (.int 0)) := own_Av.new Ar3 (by decide) (by decide)
  refine go _ (T3.setTop (mkF m 14 #[.val (.ref o0), .val (.int (16 : Int32))] [(.ref b3), (.ref o0)])) st3 ?_
  have F5_value_o0 : Fld Z h3 o0 "java/lang/AbstractStringBuilder" "value" "[B" .null := (PV.ext E3)
  have E6_o0 : Exa Z h3 o0 "java/lang/StringBuilder" := (PE.ext E3)
  obtain ⟨T7, h7, X7, e7, W7, st7⟩ := putF X3 hx hZ hown (host := "") (Or.inl (hw _ (List.mem_of_getElem? (i := 22) rfl))) Via.refl e3 F5_value_o0 E6_o0 (Or.inl (hw _ (List.mem_of_getElem? (i := 23) rfl))) (hw _ (List.mem_of_getElem? (i := 5) rfl)) (ty := (.array .byte)) (by decide) rfl rfl (g := (mkF m 14 #[.val (.ref o0), .val (.int (16 : Int32))] [(.ref b3), (.ref o0)])) rfl rfl (hb hby d3_14)
  have Fw7 : Fld Z h7 o0 "java/lang/AbstractStringBuilder" "value" "[B" (.ref b3) := F5_value_o0.same W7
  have N7 := Fr.snoc X7 N0 Pg
  refine go _ (T7.setTop (mkF m 17 #[.val (.ref o0), .val (.int (16 : Int32))] [])) st7 ?_
  refine go _ (T7.setTop (mkF m 18 #[.val (.ref o0), .val (.int (16 : Int32))] [(.ref o0)])) (fun t k => XS.aloadN X7.here hx rfl (hb hby d3_17) rfl rfl k) ?_
  refine go _ (T7.setTop (mkF m 19 #[.val (.ref o0), .val (.int (16 : Int32))] [(.int (0 : Int32)), (.ref o0)])) (fun t k => XS.iconst X7.here hx rfl (hb hby d3_18) k) ?_
  have F8_coder_o0 : Fld Z h7 o0 "java/lang/AbstractStringBuilder" "coder" "B" (.int (0 : Int32)) := ((PC.ext E3).other W7 (Or.inr (slot_ne (Or.inl (hw _ (List.mem_of_getElem? (i := 25) rfl))) (Or.inl (hw _ (List.mem_of_getElem? (i := 23) rfl))) (by decide) (t := .byte) (t' := (.array .byte)) (by decide) (by decide))))
  have E9_o0 : Exa Z h7 o0 "java/lang/StringBuilder" := (E6_o0.wr W7)
  obtain ⟨T10, h10, X10, e10, W10, st10⟩ := putF X7 hx hZ hown (host := "") (Or.inl (hw _ (List.mem_of_getElem? (i := 24) rfl))) Via.refl e7 F8_coder_o0 E9_o0 (Or.inl (hw _ (List.mem_of_getElem? (i := 25) rfl))) (hw _ (List.mem_of_getElem? (i := 5) rfl)) (ty := .byte) (by decide) rfl rfl (g := (mkF m 19 #[.val (.ref o0), .val (.int (16 : Int32))] [(.int (0 : Int32)), (.ref o0)])) rfl rfl (hb hby d3_19)
  have Fw10 : Fld Z h10 o0 "java/lang/AbstractStringBuilder" "coder" "B" (.int (0 : Int32)) := F8_coder_o0.same W10
  have N10 := Fr.snoc X10 N7 Pg
  refine go _ (T10.setTop (mkF m 22 #[.val (.ref o0), .val (.int (16 : Int32))] [])) st10 ?_
  refine go _ (T10.setTop (mkF m 38 #[.val (.ref o0), .val (.int (16 : Int32))] [])) (fun t k => XS.goto X10.here hx rfl (pc0 := 22) (pc' := 38) rfl (hb hby d3_22) (by decide) (by decide) k) ?_
  have E11_o0 : Exa Z h10 o0 "java/lang/StringBuilder" := (E9_o0.wr W10)
  have F12_count_o0 : Fld Z h10 o0 "java/lang/AbstractStringBuilder" "count" "I" (.int (0 : Int32)) := (((PN.ext E3).other W7 (Or.inr (slot_ne (Or.inl (hw _ (List.mem_of_getElem? (i := 56) rfl))) (Or.inl (hw _ (List.mem_of_getElem? (i := 23) rfl))) (by decide) (t := .int) (t' := (.array .byte)) (by decide) (by decide)))).other W10 (Or.inr (slot_ne (Or.inl (hw _ (List.mem_of_getElem? (i := 56) rfl))) (Or.inl (hw _ (List.mem_of_getElem? (i := 25) rfl))) (by decide) (t := .int) (t' := .byte) (by decide) (by decide))))
  have F13_value_o0 : Fld Z h10 o0 "java/lang/AbstractStringBuilder" "value" "[B" (.ref b3) := (Fw7.other W10 (Or.inr (slot_ne (Or.inl (hw _ (List.mem_of_getElem? (i := 23) rfl))) (Or.inl (hw _ (List.mem_of_getElem? (i := 25) rfl))) (by decide) (t := (.array .byte)) (t' := .byte) (by decide) (by decide))))
  have E14_b3 : Exa Z h10 b3 "[B" := ((Ax3.wr W7).wr W10)
  have A15_b3 : own_Av Z h10 b3 .byte 16 (fun _ => (.int 0)) := ((Av3.other W7 (Ne.symm ne4_o0_b3)).other W10 (Ne.symm ne4_o0_b3))
  refine fin (none) (mkF m 38 #[.val (.ref o0), .val (.int (16 : Int32))] []) X10 (fun _ => rfl) (fun fs hr => X10.returnOut hx hret (hb hby d3_38) hr) ?_ (by decide) (by decide)
  try rw [e10]
  exact ⟨rfl, N10, ((((Keep.refl h0 [o0]).ext E3).wr W7 (Or.inl (List.mem_of_getElem? (i := 0) rfl))).wr W10 (Or.inl (List.mem_of_getElem? (i := 0) rfl))), E11_o0, Fw10, F12_count_o0, b3, sz_b3, F13_value_o0, E14_b3, A15_b3⟩
theorem own_ef2 (m : MethodId) (o0 : Addr) : entryFrame m #[(.ref o0)] 1 = mkF m 0 #[.val (.ref o0)] [] := by first | (simp [entryFrame, mkF, argsToLocals, Value.category]; done) | rfl
theorem own_pn2 : plainName "java/lang/StringBuilder" = true := by first | (simp [plainName, overriddenIn]; done) | decide +kernel
theorem d2_0 : decode jdk_67_method_1_code 0 = .ok (.aload_n 0, 1) := by decide +kernel
theorem d2_1 : decode jdk_67_method_1_code 1 = .ok (.bipush 16, 2) := by decide +kernel
theorem d2_3 : decode jdk_67_method_1_code 3 = .ok (.invokespecial 1, 3) := by decide +kernel
theorem d2_6 : decode jdk_67_method_1_code 6 = .ok (.return_, 1) := by decide +kernel
def own_Q2 (Z : State) (o0 : Addr) (h0 : Heap) (n0 : Nat) (v : Option Value) (h : Heap) (L : List Loc) : Prop := v = none ∧ Fr n0 L ∧ Keep h0 h [o0] ∧ Exa Z h o0 "java/lang/StringBuilder" ∧ Fld Z h o0 "java/lang/AbstractStringBuilder" "coder" "B" (.int (0 : Int32)) ∧ Fld Z h o0 "java/lang/AbstractStringBuilder" "count" "I" (.int (0 : Int32)) ∧ ∃ nb : Addr, h0.size ≤ nb ∧ Fld Z h o0 "java/lang/AbstractStringBuilder" "value" "[B" (.ref nb) ∧ Exa Z h nb "[B" ∧ own_Av Z h nb .byte 16 (fun _ => (.int 0))
set_option maxRecDepth 65536 in
set_option maxHeartbeats 40000000 in
theorem rm2 (l : Launch) (Z : State) (a0 : Array Value) (hw : ∀ d ∈ tables_1, d.before a0 Z = true) (ws : List Jvm.Cond) (o0 : Addr) (h0 : Heap) (n0 : Nat) (Z0 : n0 ≤ h0.size) (PS : own_St Z n0 h0) (PE : Exa Z h0 o0 "java/lang/StringBuilder") (PV : Fld Z h0 o0 "java/lang/AbstractStringBuilder" "value" "[B" .null) (PC : Fld Z h0 o0 "java/lang/AbstractStringBuilder" "coder" "B" (.int (0 : Int32))) (PN : Fld Z h0 o0 "java/lang/AbstractStringBuilder" "count" "I" (.int (0 : Int32))) (Pg : n0 ≤ o0) :
    MetFree l (⟨"java/lang/StringBuilder", "<init>", "()V"⟩ : MethodName) (head1 (Jvm.Cond.code (⟨"java/lang/StringBuilder", "<init>", "()V"⟩ : MethodName) jdk_67_method_1_code 1 none :: ws) ({ frames := 2, cells := 1, slots := 16, locals := 25 } : Room)) (fun a U => a = #[(.ref o0)] ∧ Z.Warmed39 U.vm ∧ U.heap = h0) (fun _ _ _ _ _ => True) (fun _ U o U' => ∃ v L, o = .returned v ∧ own_Q2 Z o0 h0 n0 v U'.heap L ∧ FrameEnd U o U' L ({ frames := 2, cells := 1, slots := 16, locals := 25 } : Room).cells ({ frames := 2, cells := 1, slots := 16, locals := 25 } : Room).slots) := by
  refine own_metfree (Q := own_Q2 Z o0 h0 n0) (plainFor_of_name own_pn2) ?_
  intro p e s m below meth c s₁ X0 hx hby hml hret hown hnm hZ e0 G go fin
  have N0 := Fr.nil n0
  refine go _ (s₁.setTop (mkF m 0 #[.val (.ref o0)] [])) (fun t k => castTop (own_ef2 m o0) k) ?_
  refine go _ (s₁.setTop (mkF m 1 #[.val (.ref o0)] [(.ref o0)])) (fun t k => XS.aloadN X0.here hx rfl (hb hby d2_0) rfl rfl k) ?_
  refine go _ (s₁.setTop (mkF m 3 #[.val (.ref o0)] [(.int (16 : Int32)), (.ref o0)])) (fun t k => XS.bipush X0.here hx rfl (hb hby d2_1) k) ?_
  obtain ⟨_, _, ⟨T1, L1, k1, n1⟩, -, X1, ⟨Lc1, hQ1, l1, y1, z1⟩, st1⟩ := X0.specialBack hx (y := (⟨"java/lang/AbstractStringBuilder", "<init>", "(I)V"⟩ : MethodName)) rfl hown (mvT hZ (hw _ (List.mem_of_getElem? (i := 10) rfl))) (mvT hZ (hw _ (List.mem_of_getElem? (i := 11) rfl))) (mvT hZ (hw _ (List.mem_of_getElem? (i := 15) rfl))) (by decide) (backOf (W := 0) (rm3 l Z a0 hw [] o0 (16 : Int32) h0 n0 Z0 PS PE PV PC PN Pg rfl) hZ (hw _ (List.mem_of_getElem? (i := 15) rfl)) (hw _ (List.mem_of_getElem? (i := 14) rfl)) (by decide) (by decide)) (g := (mkF m 3 #[.val (.ref o0)] [(.int (16 : Int32)), (.ref o0)])) rfl (by rw [hml]; rfl) (Steps.refl _) (a := o0) (argsL := [(.int (16 : Int32))]) (rest := []) (lenOf own_pd_10 rfl) rfl (by show 2 * 0 + _ ≤ _; exact Nat.le_of_eq rfl) (hb hby d2_3) (fun _ _ => ⟨rfl, e0, (by decide : 0 + 1 ≤ _), (by decide : 0 + 16 ≤ _)⟩)
  dsimp only [Pt.U, Pt.locs, Pt.cells, Pt.slots] at X1 l1 y1 z1 st1 hQ1
  subst l1 y1 z1
  obtain ⟨rfl, Nq1, K1, Ex1, Fc1, Fn1, nb1, sz1, Fv1, Xn1, An1⟩ := hQ1
  have N1 := Fr.app N0 Nq1
  have ne2_o0_nb1 : o0 ≠ nb1 := Nat.ne_of_lt (Nat.lt_of_lt_of_le PE.lt sz1)
  have sz_nb1 : h0.size ≤ nb1 := sz1
  have g_nb1 : n0 ≤ nb1 := Nat.le_trans Z0 sz1
  refine go _ (T1.setTop (mkF m 6 #[.val (.ref o0)] [])) (fun t k => st1.trans k) ?_
  refine fin (none) (mkF m 6 #[.val (.ref o0)] []) X1 (fun _ => rfl) (fun fs hr => X1.returnOut hx hret (hb hby d2_6) hr) ?_ (by decide) (by decide)
  exact ⟨rfl, N1, ((Keep.refl h0 [o0]).trans K1 (allS (Or.inl (List.mem_of_getElem? (i := 0) rfl)) all0)), Ex1, Fc1, Fn1, nb1, sz_nb1, Fv1, Xn1, An1⟩
theorem own_ef17 (m : MethodId) (o0 : Addr) : entryFrame m #[(.ref o0)] 1 = mkF m 0 #[.val (.ref o0)] [] := by first | (simp [entryFrame, mkF, argsToLocals, Value.category]; done) | rfl
theorem own_pn17 : plainName "java/lang/AbstractStringBuilder" = true := by first | (simp [plainName, overriddenIn]; done) | decide +kernel
theorem d17_0 : decode jdk_68_method_64_code 0 = .ok (.aload_n 0, 1) := by decide +kernel
theorem d17_1 : decode jdk_68_method_64_code 1 = .ok (.getfield 15, 3) := by decide +kernel
theorem d17_4 : decode jdk_68_method_64_code 4 = .ok (.areturn, 1) := by decide +kernel
def own_Q17 (Z : State) (o0 : Addr) (ob : Addr) (h0 : Heap) (n0 : Nat) (v : Option Value) (h : Heap) (L : List Loc) : Prop := v = some (.ref ob) ∧ Fr n0 L ∧ h = h0
set_option maxRecDepth 65536 in
set_option maxHeartbeats 40000000 in
theorem rm17 (l : Launch) (Z : State) (a0 : Array Value) (hw : ∀ d ∈ tables_1, d.before a0 Z = true) (ws : List Jvm.Cond) (o0 : Addr) (ob : Addr) (h0 : Heap) (n0 : Nat) (Z0 : n0 ≤ h0.size) (PV : Fld Z h0 o0 "java/lang/AbstractStringBuilder" "value" "[B" (.ref ob)) :
    MetFree l (⟨"java/lang/AbstractStringBuilder", "getValue", "()[B"⟩ : MethodName) (head1 (Jvm.Cond.code (⟨"java/lang/AbstractStringBuilder", "getValue", "()[B"⟩ : MethodName) jdk_68_method_64_code 1 (some (.array .byte)) :: ws) ({ frames := 0, cells := 0, slots := 0, locals := 0 } : Room)) (fun a U => a = #[(.ref o0)] ∧ Z.Warmed39 U.vm ∧ U.heap = h0) (fun _ _ _ _ _ => True) (fun _ U o U' => ∃ v L, o = .returned v ∧ own_Q17 Z o0 ob h0 n0 v U'.heap L ∧ FrameEnd U o U' L ({ frames := 0, cells := 0, slots := 0, locals := 0 } : Room).cells ({ frames := 0, cells := 0, slots := 0, locals := 0 } : Room).slots) := by
  refine own_metfree (Q := own_Q17 Z o0 ob h0 n0) (plainFor_of_name own_pn17) ?_
  intro p e s m below meth c s₁ X0 hx hby hml hret hown hnm hZ e0 G go fin
  have N0 := Fr.nil n0
  refine go _ (s₁.setTop (mkF m 0 #[.val (.ref o0)] [])) (fun t k => castTop (own_ef17 m o0) k) ?_
  refine go _ (s₁.setTop (mkF m 1 #[.val (.ref o0)] [(.ref o0)])) (fun t k => XS.aloadN X0.here hx rfl (hb hby d17_0) rfl rfl k) ?_
  obtain ⟨T1, X1, e1, st1⟩ := getF X0 hx hZ hown (host := "") (Or.inl (hw _ (List.mem_of_getElem? (i := 22) rfl))) Via.refl e0 PV (g := (mkF m 1 #[.val (.ref o0)] [(.ref o0)])) rfl rfl (hb hby d17_1)
  refine go _ (T1.setTop (mkF m 4 #[.val (.ref o0)] [(.ref ob)])) st1 ?_
  refine fin (some (.ref ob)) (mkF m 4 #[.val (.ref o0)] [(.ref ob)]) X1 (fun h => by cases h) (fun fs hr => retOut X1 hx (t := (.array .byte)) hret rfl (Or.inr (Or.inr (Or.inr (Or.inr ⟨rfl, rfl, rfl⟩)))) (hb hby d17_4) hr) ?_ (by decide) (by decide)
  try rw [e1]
  exact ⟨rfl, N0, rfl⟩
theorem own_ef19 (m : MethodId) (o0 : Addr) : entryFrame m #[(.ref o0)] 1 = mkF m 0 #[.val (.ref o0)] [] := by first | (simp [entryFrame, mkF, argsToLocals, Value.category]; done) | rfl
theorem own_pn19 : plainName "java/lang/AbstractStringBuilder" = true := by first | (simp [plainName, overriddenIn]; done) | decide +kernel
theorem d19_0 : decode jdk_68_method_6_code 0 = .ok (.aload_n 0, 1) := by decide +kernel
theorem d19_1 : decode jdk_68_method_6_code 1 = .ok (.getfield 79, 3) := by decide +kernel
theorem d19_4 : decode jdk_68_method_6_code 4 = .ok (.ireturn, 1) := by decide +kernel
def own_Q19 (Z : State) (o0 : Addr) (vc : Int32) (h0 : Heap) (n0 : Nat) (v : Option Value) (h : Heap) (L : List Loc) : Prop := v = some (.int vc) ∧ Fr n0 L ∧ h = h0
set_option maxRecDepth 65536 in
set_option maxHeartbeats 40000000 in
theorem rm19 (l : Launch) (Z : State) (a0 : Array Value) (hw : ∀ d ∈ tables_1, d.before a0 Z = true) (ws : List Jvm.Cond) (o0 : Addr) (vc : Int32) (h0 : Heap) (n0 : Nat) (Z0 : n0 ≤ h0.size) (PN : Fld Z h0 o0 "java/lang/AbstractStringBuilder" "count" "I" (.int vc)) :
    MetFree l (⟨"java/lang/AbstractStringBuilder", "length", "()I"⟩ : MethodName) (head1 (Jvm.Cond.code (⟨"java/lang/AbstractStringBuilder", "length", "()I"⟩ : MethodName) jdk_68_method_6_code 1 (some .int) :: ws) ({ frames := 0, cells := 0, slots := 0, locals := 0 } : Room)) (fun a U => a = #[(.ref o0)] ∧ Z.Warmed39 U.vm ∧ U.heap = h0) (fun _ _ _ _ _ => True) (fun _ U o U' => ∃ v L, o = .returned v ∧ own_Q19 Z o0 vc h0 n0 v U'.heap L ∧ FrameEnd U o U' L ({ frames := 0, cells := 0, slots := 0, locals := 0 } : Room).cells ({ frames := 0, cells := 0, slots := 0, locals := 0 } : Room).slots) := by
  refine own_metfree (Q := own_Q19 Z o0 vc h0 n0) (plainFor_of_name own_pn19) ?_
  intro p e s m below meth c s₁ X0 hx hby hml hret hown hnm hZ e0 G go fin
  have N0 := Fr.nil n0
  refine go _ (s₁.setTop (mkF m 0 #[.val (.ref o0)] [])) (fun t k => castTop (own_ef19 m o0) k) ?_
  refine go _ (s₁.setTop (mkF m 1 #[.val (.ref o0)] [(.ref o0)])) (fun t k => XS.aloadN X0.here hx rfl (hb hby d19_0) rfl rfl k) ?_
  obtain ⟨T1, X1, e1, st1⟩ := getF X0 hx hZ hown (host := "") (Or.inl (hw _ (List.mem_of_getElem? (i := 55) rfl))) Via.refl e0 PN (g := (mkF m 1 #[.val (.ref o0)] [(.ref o0)])) rfl rfl (hb hby d19_1)
  refine go _ (T1.setTop (mkF m 4 #[.val (.ref o0)] [(.int vc)])) st1 ?_
  refine fin (some (.int vc)) (mkF m 4 #[.val (.ref o0)] [(.int vc)]) X1 (fun h => by cases h) (fun fs hr => retOut X1 hx (t := .int) hret rfl (Or.inl ⟨rfl, by simp, _, rfl⟩) (hb hby d19_4) hr) ?_ (by decide) (by decide)
  try rw [e1]
  exact ⟨rfl, N0, rfl⟩
theorem own_ef18 (m : MethodId) (o0 : Addr) : entryFrame m #[(.ref o0)] 1 = mkF m 0 #[.val (.ref o0)] [] := by first | (simp [entryFrame, mkF, argsToLocals, Value.category]; done) | rfl
theorem own_pn18 : plainName "java/lang/StringBuilder" = true := by first | (simp [plainName, overriddenIn]; done) | decide +kernel
theorem d18_0 : decode jdk_67_method_93_code 0 = .ok (.aload_n 0, 1) := by decide +kernel
theorem d18_1 : decode jdk_67_method_93_code 1 = .ok (.invokespecial 343, 3) := by decide +kernel
theorem d18_4 : decode jdk_67_method_93_code 4 = .ok (.ireturn, 1) := by decide +kernel
def own_Q18 (Z : State) (o0 : Addr) (vc : Int32) (h0 : Heap) (n0 : Nat) (v : Option Value) (h : Heap) (L : List Loc) : Prop := v = some (.int vc) ∧ Fr n0 L ∧ h = h0
set_option maxRecDepth 65536 in
set_option maxHeartbeats 40000000 in
theorem rm18 (l : Launch) (Z : State) (a0 : Array Value) (hw : ∀ d ∈ tables_1, d.before a0 Z = true) (ws : List Jvm.Cond) (o0 : Addr) (vc : Int32) (h0 : Heap) (n0 : Nat) (Z0 : n0 ≤ h0.size) (PE : Exa Z h0 o0 "java/lang/StringBuilder") (PN : Fld Z h0 o0 "java/lang/AbstractStringBuilder" "count" "I" (.int vc)) :
    MetFree l (⟨"java/lang/StringBuilder", "length", "()I"⟩ : MethodName) (head1 (Jvm.Cond.code (⟨"java/lang/StringBuilder", "length", "()I"⟩ : MethodName) jdk_67_method_93_code 1 (some .int) :: ws) ({ frames := 1, cells := 0, slots := 0, locals := 12 } : Room)) (fun a U => a = #[(.ref o0)] ∧ Z.Warmed39 U.vm ∧ U.heap = h0) (fun _ _ _ _ _ => True) (fun _ U o U' => ∃ v L, o = .returned v ∧ own_Q18 Z o0 vc h0 n0 v U'.heap L ∧ FrameEnd U o U' L ({ frames := 1, cells := 0, slots := 0, locals := 12 } : Room).cells ({ frames := 1, cells := 0, slots := 0, locals := 12 } : Room).slots) := by
  refine own_metfree (Q := own_Q18 Z o0 vc h0 n0) (plainFor_of_name own_pn18) ?_
  intro p e s m below meth c s₁ X0 hx hby hml hret hown hnm hZ e0 G go fin
  have N0 := Fr.nil n0
  refine go _ (s₁.setTop (mkF m 0 #[.val (.ref o0)] [])) (fun t k => castTop (own_ef18 m o0) k) ?_
  refine go _ (s₁.setTop (mkF m 1 #[.val (.ref o0)] [(.ref o0)])) (fun t k => XS.aloadN X0.here hx rfl (hb hby d18_0) rfl rfl k) ?_
  obtain ⟨_, _, ⟨T1, L1, k1, n1⟩, -, X1, ⟨Lc1, hQ1, l1, y1, z1⟩, st1⟩ := superBack (K := "java/lang/StringBuilder") X0 hx hZ (y := (⟨"java/lang/AbstractStringBuilder", "length", "()I"⟩ : MethodName)) hown (hw _ (List.mem_of_getElem? (i := 114) rfl)) (own_same (hw _ (List.mem_of_getElem? (i := 109) rfl)) (hw _ (List.mem_of_getElem? (i := 60) rfl)) rfl (by decide)) (hw _ (List.mem_of_getElem? (i := 110) rfl)) (hw _ (List.mem_of_getElem? (i := 39) rfl)) (by decide) (backOf (W := 0) (rm19 l Z a0 hw [] o0 vc h0 n0 Z0 PN) hZ (hw _ (List.mem_of_getElem? (i := 115) rfl)) (hw _ (List.mem_of_getElem? (i := 14) rfl)) (by decide) (by decide)) e0 (Ins.self PE) (g := (mkF m 1 #[.val (.ref o0)] [(.ref o0)])) rfl (by rw [hml]; rfl) (hw _ (List.mem_of_getElem? (i := 115) rfl)) (argsL := []) (rest := []) (lenOf own_pd_9 rfl) rfl (by show 2 * 0 + _ ≤ _; exact Nat.le_of_eq rfl) (hb hby d18_1) (fun _ _ => ⟨rfl, e0, (by decide : 0 + 0 ≤ _), (by decide : 0 + 0 ≤ _)⟩)
  dsimp only [Pt.U, Pt.locs, Pt.cells, Pt.slots] at X1 l1 y1 z1 st1 hQ1
  subst l1 y1 z1
  obtain ⟨rfl, Nq1, eq1⟩ := hQ1
  have N1 := Fr.app N0 Nq1
  refine go _ (T1.setTop (mkF m 4 #[.val (.ref o0)] [(.int vc)])) (fun t k => st1.trans k) ?_
  refine fin (some (.int vc)) (mkF m 4 #[.val (.ref o0)] [(.int vc)]) X1 (fun h => by cases h) (fun fs hr => retOut X1 hx (t := .int) hret rfl (Or.inl ⟨rfl, by simp, _, rfl⟩) (hb hby d18_4) hr) ?_ (by decide) (by decide)
  try rw [eq1]
  exact ⟨rfl, N1, rfl⟩
theorem own_ef16 (m : MethodId) (o0 : Addr) (o1 : Addr) : entryFrame m #[(.ref o0), (.ref o1), .null] 5 = mkF m 0 #[.val (.ref o0), .val (.ref o1), .val .null, .unset, .unset] [] := by first | (simp [entryFrame, mkF, argsToLocals, Value.category]; done) | rfl
theorem own_pn16 : plainName "java/lang/String" = true := by first | (simp [plainName, overriddenIn]; done) | decide +kernel
theorem d16_0 : decode jdk_42_method_150_code 0 = .ok (.aload_n 0, 1) := by decide +kernel
theorem d16_1 : decode jdk_42_method_150_code 1 = .ok (.invokespecial 1, 3) := by decide +kernel
theorem d16_4 : decode jdk_42_method_150_code 4 = .ok (.aload_n 1, 1) := by decide +kernel
theorem d16_5 : decode jdk_42_method_150_code 5 = .ok (.invokevirtual 552, 3) := by decide +kernel
theorem own_pd_13 : parseMethodDescriptor "()[B" = some ⟨[], some (.array .byte)⟩ := by decide +kernel
theorem d16_8 : decode jdk_42_method_150_code 8 = .ok (.astore_n 3, 1) := by decide +kernel
theorem d16_9 : decode jdk_42_method_150_code 9 = .ok (.aload_n 1, 1) := by decide +kernel
theorem d16_10 : decode jdk_42_method_150_code 10 = .ok (.invokevirtual 549, 3) := by decide +kernel
theorem d16_13 : decode jdk_42_method_150_code 13 = .ok (.istore 4, 2) := by decide +kernel
theorem d16_15 : decode jdk_42_method_150_code 15 = .ok (.aload_n 1, 1) := by decide +kernel
theorem d16_16 : decode jdk_42_method_150_code 16 = .ok (.invokevirtual 1047, 3) := by decide +kernel
theorem own_pd_14 : parseMethodDescriptor "()Z" = some ⟨[], some .boolean⟩ := by decide +kernel
theorem d16_19 : decode jdk_42_method_150_code 19 = .ok (.ifCond .eq 22, 3) := by decide +kernel
theorem d16_22 : decode jdk_42_method_150_code 22 = .ok (.aload_n 0, 1) := by decide +kernel
theorem d16_23 : decode jdk_42_method_150_code 23 = .ok (.iconst 0, 1) := by decide +kernel
theorem d16_24 : decode jdk_42_method_150_code 24 = .ok (.putfield 15, 3) := by decide +kernel
theorem d16_27 : decode jdk_42_method_150_code 27 = .ok (.aload_n 0, 1) := by decide +kernel
theorem d16_28 : decode jdk_42_method_150_code 28 = .ok (.aload_n 3, 1) := by decide +kernel
theorem d16_29 : decode jdk_42_method_150_code 29 = .ok (.iconst 0, 1) := by decide +kernel
theorem d16_30 : decode jdk_42_method_150_code 30 = .ok (.iload 4, 2) := by decide +kernel
theorem d16_32 : decode jdk_42_method_150_code 32 = .ok (.invokestatic 54, 3) := by decide +kernel
theorem d16_35 : decode jdk_42_method_150_code 35 = .ok (.putfield 9, 3) := by decide +kernel
theorem d16_38 : decode jdk_42_method_150_code 38 = .ok (.goto 59, 3) := by decide +kernel
theorem d16_97 : decode jdk_42_method_150_code 97 = .ok (.return_, 1) := by decide +kernel
def own_Q16 (Z : State) (o0 : Addr) (o1 : Addr) (ob : Addr) (nn : Nat) (g : Nat → Value) (vc : Int32) (mm : Nat) (h0 : Heap) (n0 : Nat) (v : Option Value) (h : Heap) (L : List Loc) : Prop := v = none ∧ Fr n0 L ∧ Keep h0 h [o0] ∧ Exa Z h o0 "java/lang/String" ∧ Fld Z h o0 "java/lang/String" "coder" "B" (.int (0 : Int32)) ∧ ∃ (nb : Addr) (ff : Nat → Value), h0.size ≤ nb ∧ Fld Z h o0 "java/lang/String" "value" "[B" (.ref nb) ∧ own_Av Z h nb .byte mm ff ∧ ∀ i, i < mm → ff i = g i
set_option maxRecDepth 65536 in
set_option maxHeartbeats 40000000 in
theorem rm16 (l : Launch) (Z : State) (a0 : Array Value) (hw : ∀ d ∈ tables_1, d.before a0 Z = true) (ws : List Jvm.Cond) (o0 : Addr) (o1 : Addr) (ob : Addr) (nn : Nat) (g : Nat → Value) (vc : Int32) (mm : Nat) (h0 : Heap) (n0 : Nat) (Z0 : n0 ≤ h0.size) (PS : own_St Z n0 h0) (QE : Exa Z h0 o0 "java/lang/String") (QV : Fld Z h0 o0 "java/lang/String" "value" "[B" .null) (QC : Fld Z h0 o0 "java/lang/String" "coder" "B" (.int (0 : Int32))) (Pg : n0 ≤ o0) (PE : Exa Z h0 o1 "java/lang/StringBuilder") (PC : Fld Z h0 o1 "java/lang/AbstractStringBuilder" "coder" "B" (.int (0 : Int32))) (PV : Fld Z h0 o1 "java/lang/AbstractStringBuilder" "value" "[B" (.ref ob)) (PA : own_Av Z h0 ob .byte nn g) (PX : Exa Z h0 ob "[B") (PN : Fld Z h0 o1 "java/lang/AbstractStringBuilder" "count" "I" (.int vc)) (Pm : vc.toInt = (mm : Int)) (PM : mm ≤ nn) (Pn : nn ≤ 200) (Ne0 : o0 ≠ o1) (Ne1 : o0 ≠ ob) :
    MetFree l (⟨"java/lang/String", "<init>", "(Ljava/lang/AbstractStringBuilder;Ljava/lang/Void;)V"⟩ : MethodName) (head1 (Jvm.Cond.code (⟨"java/lang/String", "<init>", "(Ljava/lang/AbstractStringBuilder;Ljava/lang/Void;)V"⟩ : MethodName) jdk_42_method_150_code 5 none :: ws) ({ frames := 3, cells := 1, slots := 200, locals := 49 } : Room)) (fun a U => a = #[(.ref o0), (.ref o1), .null] ∧ Z.Warmed39 U.vm ∧ U.heap = h0) (fun _ _ _ _ _ => True) (fun _ U o U' => ∃ v L, o = .returned v ∧ own_Q16 Z o0 o1 ob nn g vc mm h0 n0 v U'.heap L ∧ FrameEnd U o U' L ({ frames := 3, cells := 1, slots := 200, locals := 49 } : Room).cells ({ frames := 3, cells := 1, slots := 200, locals := 49 } : Room).slots) := by
  refine own_metfree (Q := own_Q16 Z o0 o1 ob nn g vc mm h0 n0) (plainFor_of_name own_pn16) ?_
  intro p e s m below meth c s₁ X0 hx hby hml hret hown hnm hZ e0 G go fin
  have N0 := Fr.nil n0
  refine go _ (s₁.setTop (mkF m 0 #[.val (.ref o0), .val (.ref o1), .val .null, .unset, .unset] [])) (fun t k => castTop (own_ef16 m o0 o1) k) ?_
  refine go _ (s₁.setTop (mkF m 1 #[.val (.ref o0), .val (.ref o1), .val .null, .unset, .unset] [(.ref o0)])) (fun t k => XS.aloadN X0.here hx rfl (hb hby d16_0) rfl rfl k) ?_
  obtain ⟨T1, X1, e1, st1⟩ := initO X0 hx hZ hown (hw _ (List.mem_of_getElem? (i := 102) rfl)) (hw _ (List.mem_of_getElem? (i := 17) rfl)) (hw _ (List.mem_of_getElem? (i := 18) rfl)) e0 (g := (mkF m 1 #[.val (.ref o0), .val (.ref o1), .val .null, .unset, .unset] [(.ref o0)])) rfl (by rw [hml]; rfl) rfl (hb hby d16_1) (by decide) (W := 0) (by show 2 * 0 + _ ≤ _; exact Nat.le_of_eq rfl) (by decide)
  refine go _ (T1.setTop (mkF m 4 #[.val (.ref o0), .val (.ref o1), .val .null, .unset, .unset] [])) st1 ?_
  refine go _ (T1.setTop (mkF m 5 #[.val (.ref o0), .val (.ref o1), .val .null, .unset, .unset] [(.ref o1)])) (fun t k => XS.aloadN X1.here hx rfl (hb hby d16_4) rfl rfl k) ?_
  obtain ⟨cq2, kq2, q2a, q2b, q2c⟩ := isOf hZ e1 PE
  obtain ⟨_, _, ⟨T2, L2, k2, n2⟩, -, X2, ⟨Lc2, hQ2, l2, y2, z2⟩, st2⟩ := X1.virtualBack hx (y := (⟨"java/lang/AbstractStringBuilder", "getValue", "()[B"⟩ : MethodName)) (z := (⟨"java/lang/AbstractStringBuilder", "getValue", "()[B"⟩ : MethodName)) hown (mvT hZ (hw _ (List.mem_of_getElem? (i := 103) rfl))) (mvT hZ (hw _ (List.mem_of_getElem? (i := 104) rfl))) (notFace_of_selects (args := #[]) (mvT hZ (hw _ (List.mem_of_getElem? (i := 106) rfl)))) (mvT hZ (hw _ (List.mem_of_getElem? (i := 106) rfl))) (mvT hZ (hw _ (List.mem_of_getElem? (i := 105) rfl))) (by decide) (backOf (W := 0) (rm17 l Z a0 hw [] o1 ob h0 n0 Z0 PV) hZ (hw _ (List.mem_of_getElem? (i := 107) rfl)) (hw _ (List.mem_of_getElem? (i := 14) rfl)) (by decide) (by decide)) q2a q2c (g := (mkF m 5 #[.val (.ref o0), .val (.ref o1), .val .null, .unset, .unset] [(.ref o1)])) rfl (by rw [hml]; rfl) (Steps.refl _) (argsL := []) (rest := []) (lenOf own_pd_13 rfl) rfl (by show 2 * 0 + _ ≤ _; exact Nat.le_of_eq rfl) (hb hby d16_5) (fun _ _ => ⟨rfl, e1, (by decide : 0 + 0 ≤ _), (by decide : 0 + 0 ≤ _)⟩)
  dsimp only [Pt.U, Pt.locs, Pt.cells, Pt.slots] at X2 l2 y2 z2 st2 hQ2
  subst l2 y2 z2
  obtain ⟨rfl, Nq2, eq2⟩ := hQ2
  have N2 := Fr.app N0 Nq2
  refine go _ (T2.setTop (mkF m 8 #[.val (.ref o0), .val (.ref o1), .val .null, .unset, .unset] [(.ref ob)])) (fun t k => st2.trans k) ?_
  refine go _ (T2.setTop (mkF m 9 #[.val (.ref o0), .val (.ref o1), .val .null, .val (.ref ob), .unset] [])) (fun t k => XS.astoreN X2.here hx rfl (hb hby d16_8) rfl rfl (l' := #[.val (.ref o0), .val (.ref o1), .val .null, .val (.ref ob), .unset]) rfl k) ?_
  refine go _ (T2.setTop (mkF m 10 #[.val (.ref o0), .val (.ref o1), .val .null, .val (.ref ob), .unset] [(.ref o1)])) (fun t k => XS.aloadN X2.here hx rfl (hb hby d16_9) rfl rfl k) ?_
  obtain ⟨cq3, kq3, q3a, q3b, q3c⟩ := isOf hZ eq2 PE
  obtain ⟨_, _, ⟨T3, L3, k3, n3⟩, -, X3, ⟨Lc3, hQ3, l3, y3, z3⟩, st3⟩ := X2.virtualBack hx (y := (⟨"java/lang/AbstractStringBuilder", "length", "()I"⟩ : MethodName)) (z := (⟨"java/lang/StringBuilder", "length", "()I"⟩ : MethodName)) hown (mvT hZ (hw _ (List.mem_of_getElem? (i := 108) rfl))) (mvT hZ (hw _ (List.mem_of_getElem? (i := 109) rfl))) (own_nface (args := #[]) (mvT hZ (hw _ (List.mem_of_getElem? (i := 60) rfl))) rfl) (mvT hZ (hw _ (List.mem_of_getElem? (i := 111) rfl))) (mvT hZ (hw _ (List.mem_of_getElem? (i := 112) rfl))) (by decide) (backOf (W := 0) (rm18 l Z a0 hw [] o1 vc h0 n0 Z0 PE PN) hZ (hw _ (List.mem_of_getElem? (i := 113) rfl)) (hw _ (List.mem_of_getElem? (i := 6) rfl)) (by decide) (by decide)) q3a q3c (g := (mkF m 10 #[.val (.ref o0), .val (.ref o1), .val .null, .val (.ref ob), .unset] [(.ref o1)])) rfl (by rw [hml]; rfl) (Steps.refl _) (argsL := []) (rest := []) (lenOf own_pd_9 rfl) rfl (by show 2 * 0 + _ ≤ _; exact Nat.le_of_eq rfl) (hb hby d16_10) (fun _ _ => ⟨rfl, eq2, (by decide : 0 + 0 ≤ _), (by decide : 0 + 0 ≤ _)⟩)
  dsimp only [Pt.U, Pt.locs, Pt.cells, Pt.slots] at X3 l3 y3 z3 st3 hQ3
  subst l3 y3 z3
  obtain ⟨rfl, Nq3, eq3⟩ := hQ3
  have N3 := Fr.app N2 Nq3
  refine go _ (T3.setTop (mkF m 13 #[.val (.ref o0), .val (.ref o1), .val .null, .val (.ref ob), .unset] [(.int vc)])) (fun t k => st3.trans k) ?_
  refine go _ (T3.setTop (mkF m 15 #[.val (.ref o0), .val (.ref o1), .val .null, .val (.ref ob), .val (.int vc)] [])) (fun t k => XS.istore X3.here hx rfl (hb hby d16_13) rfl (l' := #[.val (.ref o0), .val (.ref o1), .val .null, .val (.ref ob), .val (.int vc)]) rfl k) ?_
  refine go _ (T3.setTop (mkF m 16 #[.val (.ref o0), .val (.ref o1), .val .null, .val (.ref ob), .val (.int vc)] [(.ref o1)])) (fun t k => XS.aloadN X3.here hx rfl (hb hby d16_15) rfl rfl k) ?_
  obtain ⟨cq4, kq4, q4a, q4b, q4c⟩ := isOf hZ eq3 PE
  obtain ⟨_, _, ⟨T4, L4, k4, n4⟩, -, X4, ⟨Lc4, hQ4, l4, y4, z4⟩, st4⟩ := X3.virtualBack hx (y := (⟨"java/lang/AbstractStringBuilder", "isLatin1", "()Z"⟩ : MethodName)) (z := (⟨"java/lang/AbstractStringBuilder", "isLatin1", "()Z"⟩ : MethodName)) hown (mvT hZ (hw _ (List.mem_of_getElem? (i := 116) rfl))) (mvT hZ (hw _ (List.mem_of_getElem? (i := 117) rfl))) (notFace_of_selects (args := #[]) (mvT hZ (hw _ (List.mem_of_getElem? (i := 119) rfl)))) (mvT hZ (hw _ (List.mem_of_getElem? (i := 119) rfl))) (mvT hZ (hw _ (List.mem_of_getElem? (i := 118) rfl))) (by decide) (backOf (W := 0) (rm20 l Z a0 hw [] o1 h0 n0 Z0 PS PC) hZ (hw _ (List.mem_of_getElem? (i := 120) rfl)) (hw _ (List.mem_of_getElem? (i := 14) rfl)) (by decide) (by decide)) q4a q4c (g := (mkF m 16 #[.val (.ref o0), .val (.ref o1), .val .null, .val (.ref ob), .val (.int vc)] [(.ref o1)])) rfl (by rw [hml]; rfl) (Steps.refl _) (argsL := []) (rest := []) (lenOf own_pd_14 rfl) rfl (by show 2 * 0 + _ ≤ _; exact Nat.le_of_eq rfl) (hb hby d16_16) (fun _ _ => ⟨rfl, eq3, (by decide : 0 + 0 ≤ _), (by decide : 0 + 0 ≤ _)⟩)
  dsimp only [Pt.U, Pt.locs, Pt.cells, Pt.slots] at X4 l4 y4 z4 st4 hQ4
  subst l4 y4 z4
  obtain ⟨rfl, Nq4, eq4⟩ := hQ4
  have N4 := Fr.app N3 Nq4
  refine go _ (T4.setTop (mkF m 19 #[.val (.ref o0), .val (.ref o1), .val .null, .val (.ref ob), .val (.int vc)] [(.int (1 : Int32))])) (fun t k => st4.trans k) ?_
  have hc19 : ¬ ((1 : Int32) = (0 : Int32)) := by decide
  refine go _ (T4.setTop (mkF m 22 #[.val (.ref o0), .val (.ref o1), .val .null, .val (.ref ob), .val (.int vc)] [])) (fun t k => XS.ifNo X4.here hx rfl (hb hby d16_19) rfl ((if0 _ _).trans (feq hc19).1) k) ?_
  refine go _ (T4.setTop (mkF m 23 #[.val (.ref o0), .val (.ref o1), .val .null, .val (.ref ob), .val (.int vc)] [(.ref o0)])) (fun t k => XS.aloadN X4.here hx rfl (hb hby d16_22) rfl rfl k) ?_
  refine go _ (T4.setTop (mkF m 24 #[.val (.ref o0), .val (.ref o1), .val .null, .val (.ref ob), .val (.int vc)] [(.int (0 : Int32)), (.ref o0)])) (fun t k => XS.iconst X4.here hx rfl (hb hby d16_23) k) ?_
  obtain ⟨T5, h5, X5, e5, W5, st5⟩ := putF X4 hx hZ hown (host := "") (Or.inl (hw _ (List.mem_of_getElem? (i := 54) rfl))) Via.refl eq4 QC QE (Or.inr ⟨(hw _ (List.mem_of_getElem? (i := 29) rfl)), rfl, hnm⟩) (hw _ (List.mem_of_getElem? (i := 27) rfl)) (ty := .byte) (by decide) rfl rfl (g := (mkF m 24 #[.val (.ref o0), .val (.ref o1), .val .null, .val (.ref ob), .val (.int vc)] [(.int (0 : Int32)), (.ref o0)])) rfl rfl (hb hby d16_24)
  have Fw5 : Fld Z h5 o0 "java/lang/String" "coder" "B" (.int (0 : Int32)) := QC.same W5
  have N5 := Fr.snoc X5 N4 Pg
  refine go _ (T5.setTop (mkF m 27 #[.val (.ref o0), .val (.ref o1), .val .null, .val (.ref ob), .val (.int vc)] [])) st5 ?_
  refine go _ (T5.setTop (mkF m 28 #[.val (.ref o0), .val (.ref o1), .val .null, .val (.ref ob), .val (.int vc)] [(.ref o0)])) (fun t k => XS.aloadN X5.here hx rfl (hb hby d16_27) rfl rfl k) ?_
  refine go _ (T5.setTop (mkF m 29 #[.val (.ref o0), .val (.ref o1), .val .null, .val (.ref ob), .val (.int vc)] [(.ref ob), (.ref o0)])) (fun t k => XS.aloadN X5.here hx rfl (hb hby d16_28) rfl rfl k) ?_
  refine go _ (T5.setTop (mkF m 30 #[.val (.ref o0), .val (.ref o1), .val .null, .val (.ref ob), .val (.int vc)] [(.int (0 : Int32)), (.ref ob), (.ref o0)])) (fun t k => XS.iconst X5.here hx rfl (hb hby d16_29) k) ?_
  refine go _ (T5.setTop (mkF m 32 #[.val (.ref o0), .val (.ref o1), .val .null, .val (.ref ob), .val (.int vc)] [(.int vc), (.int (0 : Int32)), (.ref ob), (.ref o0)])) (fun t k => XS.iload X5.here hx rfl (hb hby d16_30) rfl k) ?_
  have A6_ob : own_Av Z h5 ob .byte nn g := (PA.other W5 (Ne.symm Ne1))
  have E7_ob : Exa Z h5 ob "[B" := (PX.wr W5)
  have Z8z : n0 ≤ h5.size := (Nat.le_trans Z0 (Keep.of_wr W5).1)
  obtain ⟨_, _, ⟨T9, L9, k9, n9⟩, -, X9, ⟨Lc9, hQ9, l9, y9, z9⟩, st9⟩ := Jvm.LawKit.callS X5 hx (y := (⟨"java/util/Arrays", "copyOfRange", "([BII)[B"⟩ : MethodName)) hown (mvT hZ (hw _ (List.mem_of_getElem? (i := 121) rfl))) (mvT hZ (hw _ (List.mem_of_getElem? (i := 122) rfl))) (mvT hZ (hw _ (List.mem_of_getElem? (i := 123) rfl))) (mvT hZ (hw _ (List.mem_of_getElem? (i := 124) rfl))) (by decide) (backOf (W := 1) (rm21 l Z a0 hw [] ob (0 : Int32) vc nn mm g h5 n0 Z8z A6_ob E7_ob rfl Pm PM Pn) hZ (hw _ (List.mem_of_getElem? (i := 124) rfl)) (hw _ (List.mem_of_getElem? (i := 123) rfl)) (by decide) (by decide)) (g := (mkF m 32 #[.val (.ref o0), .val (.ref o1), .val .null, .val (.ref ob), .val (.int vc)] [(.int vc), (.int (0 : Int32)), (.ref ob), (.ref o0)])) rfl (by rw [hml]; rfl) (argsL := [(.ref ob), (.int (0 : Int32)), (.int vc)]) (rest := [(.ref o0)]) (lenOf own_pd_3 rfl) rfl (by show 2 * 0 + _ ≤ _; exact Nat.le_of_eq rfl) (hb hby d16_32) (fun _ _ => ⟨rfl, e5, (by decide : 0 + 1 ≤ _), (by decide : 0 + 200 ≤ _)⟩)
  dsimp only [Pt.U, Pt.locs, Pt.cells, Pt.slots] at X9 l9 y9 z9 st9 hQ9
  subst l9 y9 z9
  obtain ⟨rr9, rfl, Nq9, sr9, K9, Xr9, fr9, Ar9, ag9⟩ := hQ9
  have N9 := Fr.app N5 Nq9
  have E10_o0 : Exa Z h5 o0 "java/lang/String" := (QE.wr W5)
  have ne11_o0_rr9 : o0 ≠ rr9 := Nat.ne_of_lt (Nat.lt_of_lt_of_le E10_o0.lt sr9)
  have E12_o1 : Exa Z h5 o1 "java/lang/StringBuilder" := (PE.wr W5)
  have ne13_o1_rr9 : o1 ≠ rr9 := Nat.ne_of_lt (Nat.lt_of_lt_of_le E12_o1.lt sr9)
  have ne14_ob_rr9 : ob ≠ rr9 := Nat.ne_of_lt (Nat.lt_of_lt_of_le E7_ob.lt sr9)
  have S15s : h0.size ≤ h5.size ∧ True := ⟨(Keep.of_wr W5).1, trivial⟩
  have sz_rr9 : h0.size ≤ rr9 := (Nat.le_trans S15s.1 sr9)
  have g_rr9 : n0 ≤ rr9 := Nat.le_trans Z8z sr9
  refine go _ (T9.setTop (mkF m 35 #[.val (.ref o0), .val (.ref o1), .val .null, .val (.ref ob), .val (.int vc)] [(.ref rr9), (.ref o0)])) st9 ?_
  have F16_value_o0 : Fld Z T9.heap o0 "java/lang/String" "value" "[B" .null := ((QV.other W5 (Or.inr (slot_ne (Or.inr (hw _ (List.mem_of_getElem? (i := 28) rfl))) (Or.inr (hw _ (List.mem_of_getElem? (i := 29) rfl))) (by decide) (t := (.array .byte)) (t' := .byte) (by decide) (by decide)))).keep K9 nin0)
  have E17_o0 : Exa Z T9.heap o0 "java/lang/String" := (E10_o0.keep K9)
  obtain ⟨T18, h18, X18, e18, W18, st18⟩ := putF X9 hx hZ hown (host := "") (Or.inl (hw _ (List.mem_of_getElem? (i := 47) rfl))) Via.refl rfl F16_value_o0 E17_o0 (Or.inr ⟨(hw _ (List.mem_of_getElem? (i := 28) rfl)), rfl, hnm⟩) (hw _ (List.mem_of_getElem? (i := 27) rfl)) (ty := (.array .byte)) (by decide) rfl rfl (g := (mkF m 35 #[.val (.ref o0), .val (.ref o1), .val .null, .val (.ref ob), .val (.int vc)] [(.ref rr9), (.ref o0)])) rfl rfl (hb hby d16_35)
  have Fw18 : Fld Z h18 o0 "java/lang/String" "value" "[B" (.ref rr9) := F16_value_o0.same W18
  have N18 := Fr.snoc X18 N9 Pg
  refine go _ (T18.setTop (mkF m 38 #[.val (.ref o0), .val (.ref o1), .val .null, .val (.ref ob), .val (.int vc)] [])) st18 ?_
  refine go _ (T18.setTop (mkF m 97 #[.val (.ref o0), .val (.ref o1), .val .null, .val (.ref ob), .val (.int vc)] [])) (fun t k => XS.goto X18.here hx rfl (pc0 := 38) (pc' := 97) rfl (hb hby d16_38) (by decide) (by decide) k) ?_
  have E19_o0 : Exa Z h18 o0 "java/lang/String" := (E17_o0.wr W18)
  have F20_coder_o0 : Fld Z h18 o0 "java/lang/String" "coder" "B" (.int (0 : Int32)) := ((Fw5.keep K9 nin0).other W18 (Or.inr (slot_ne (Or.inr (hw _ (List.mem_of_getElem? (i := 29) rfl))) (Or.inr (hw _ (List.mem_of_getElem? (i := 28) rfl))) (by decide) (t := .byte) (t' := (.array .byte)) (by decide) (by decide))))
  have A21_rr9 : own_Av Z h18 rr9 .byte mm fr9 := (Ar9.other W18 (Ne.symm ne11_o0_rr9))
  refine fin (none) (mkF m 97 #[.val (.ref o0), .val (.ref o1), .val .null, .val (.ref ob), .val (.int vc)] []) X18 (fun _ => rfl) (fun fs hr => X18.returnOut hx hret (hb hby d16_97) hr) ?_ (by decide) (by decide)
  try rw [e18]
  exact ⟨rfl, N18, ((((Keep.refl h0 [o0]).wr W5 (Or.inl (List.mem_of_getElem? (i := 0) rfl))).trans K9 all0).wr W18 (Or.inl (List.mem_of_getElem? (i := 0) rfl))), E19_o0, F20_coder_o0, rr9, _, sz_rr9, Fw18, A21_rr9, ag9⟩
theorem own_ef15 (m : MethodId) (o0 : Addr) (o1 : Addr) : entryFrame m #[(.ref o0), (.ref o1)] 2 = mkF m 0 #[.val (.ref o0), .val (.ref o1)] [] := by first | (simp [entryFrame, mkF, argsToLocals, Value.category]; done) | rfl
theorem own_pn15 : plainName "java/lang/String" = true := by first | (simp [plainName, overriddenIn]; done) | decide +kernel
theorem d15_0 : decode jdk_42_method_53_code 0 = .ok (.aload_n 0, 1) := by decide +kernel
theorem d15_1 : decode jdk_42_method_53_code 1 = .ok (.aload_n 1, 1) := by decide +kernel
theorem d15_2 : decode jdk_42_method_53_code 2 = .ok (.aconst_null, 1) := by decide +kernel
theorem d15_3 : decode jdk_42_method_53_code 3 = .ok (.invokespecial 489, 3) := by decide +kernel
theorem own_pd_15 : parseMethodDescriptor "(Ljava/lang/AbstractStringBuilder;Ljava/lang/Void;)V" = some ⟨[(.object "java/lang/AbstractStringBuilder"), (.object "java/lang/Void")], none⟩ := by decide +kernel
theorem d15_6 : decode jdk_42_method_53_code 6 = .ok (.return_, 1) := by decide +kernel
def own_Q15 (Z : State) (o0 : Addr) (o1 : Addr) (ob : Addr) (nn : Nat) (g : Nat → Value) (vc : Int32) (mm : Nat) (h0 : Heap) (n0 : Nat) (v : Option Value) (h : Heap) (L : List Loc) : Prop := v = none ∧ Fr n0 L ∧ Keep h0 h [o0] ∧ Exa Z h o0 "java/lang/String" ∧ Fld Z h o0 "java/lang/String" "coder" "B" (.int (0 : Int32)) ∧ ∃ (nb : Addr) (ff : Nat → Value), h0.size ≤ nb ∧ Fld Z h o0 "java/lang/String" "value" "[B" (.ref nb) ∧ own_Av Z h nb .byte mm ff ∧ ∀ i, i < mm → ff i = g i
set_option maxRecDepth 65536 in
set_option maxHeartbeats 40000000 in
theorem rm15 (l : Launch) (Z : State) (a0 : Array Value) (hw : ∀ d ∈ tables_1, d.before a0 Z = true) (ws : List Jvm.Cond) (o0 : Addr) (o1 : Addr) (ob : Addr) (nn : Nat) (g : Nat → Value) (vc : Int32) (mm : Nat) (h0 : Heap) (n0 : Nat) (Z0 : n0 ≤ h0.size) (PS : own_St Z n0 h0) (QE : Exa Z h0 o0 "java/lang/String") (QV : Fld Z h0 o0 "java/lang/String" "value" "[B" .null) (QC : Fld Z h0 o0 "java/lang/String" "coder" "B" (.int (0 : Int32))) (Pg : n0 ≤ o0) (PE : Exa Z h0 o1 "java/lang/StringBuilder") (PC : Fld Z h0 o1 "java/lang/AbstractStringBuilder" "coder" "B" (.int (0 : Int32))) (PV : Fld Z h0 o1 "java/lang/AbstractStringBuilder" "value" "[B" (.ref ob)) (PA : own_Av Z h0 ob .byte nn g) (PX : Exa Z h0 ob "[B") (PN : Fld Z h0 o1 "java/lang/AbstractStringBuilder" "count" "I" (.int vc)) (Pm : vc.toInt = (mm : Int)) (PM : mm ≤ nn) (Pn : nn ≤ 200) (Ne0 : o0 ≠ o1) (Ne1 : o0 ≠ ob) :
    MetFree l (⟨"java/lang/String", "<init>", "(Ljava/lang/StringBuilder;)V"⟩ : MethodName) (head1 (Jvm.Cond.code (⟨"java/lang/String", "<init>", "(Ljava/lang/StringBuilder;)V"⟩ : MethodName) jdk_42_method_53_code 2 none :: ws) ({ frames := 4, cells := 1, slots := 200, locals := 65 } : Room)) (fun a U => a = #[(.ref o0), (.ref o1)] ∧ Z.Warmed39 U.vm ∧ U.heap = h0) (fun _ _ _ _ _ => True) (fun _ U o U' => ∃ v L, o = .returned v ∧ own_Q15 Z o0 o1 ob nn g vc mm h0 n0 v U'.heap L ∧ FrameEnd U o U' L ({ frames := 4, cells := 1, slots := 200, locals := 65 } : Room).cells ({ frames := 4, cells := 1, slots := 200, locals := 65 } : Room).slots) := by
  refine own_metfree (Q := own_Q15 Z o0 o1 ob nn g vc mm h0 n0) (plainFor_of_name own_pn15) ?_
  intro p e s m below meth c s₁ X0 hx hby hml hret hown hnm hZ e0 G go fin
  have N0 := Fr.nil n0
  refine go _ (s₁.setTop (mkF m 0 #[.val (.ref o0), .val (.ref o1)] [])) (fun t k => castTop (own_ef15 m o0 o1) k) ?_
  refine go _ (s₁.setTop (mkF m 1 #[.val (.ref o0), .val (.ref o1)] [(.ref o0)])) (fun t k => XS.aloadN X0.here hx rfl (hb hby d15_0) rfl rfl k) ?_
  refine go _ (s₁.setTop (mkF m 2 #[.val (.ref o0), .val (.ref o1)] [(.ref o1), (.ref o0)])) (fun t k => XS.aloadN X0.here hx rfl (hb hby d15_1) rfl rfl k) ?_
  refine go _ (s₁.setTop (mkF m 3 #[.val (.ref o0), .val (.ref o1)] [.null, (.ref o1), (.ref o0)])) (fun t k => XS.aconstNull X0.here hx rfl (hb hby d15_2) k) ?_
  obtain ⟨_, _, ⟨T1, L1, k1, n1⟩, -, X1, ⟨Lc1, hQ1, l1, y1, z1⟩, st1⟩ := X0.specialBack hx (y := (⟨"java/lang/String", "<init>", "(Ljava/lang/AbstractStringBuilder;Ljava/lang/Void;)V"⟩ : MethodName)) rfl hown (mvT hZ (hw _ (List.mem_of_getElem? (i := 99) rfl))) (mvT hZ (hw _ (List.mem_of_getElem? (i := 100) rfl))) (mvT hZ (hw _ (List.mem_of_getElem? (i := 101) rfl))) (by decide) (backOf (W := 0) (rm16 l Z a0 hw [] o0 o1 ob nn g vc mm h0 n0 Z0 PS QE QV QC Pg PE PC PV PA PX PN Pm PM Pn Ne0 Ne1) hZ (hw _ (List.mem_of_getElem? (i := 101) rfl)) (hw _ (List.mem_of_getElem? (i := 20) rfl)) (by decide) (by decide)) (g := (mkF m 3 #[.val (.ref o0), .val (.ref o1)] [.null, (.ref o1), (.ref o0)])) rfl (by rw [hml]; rfl) (Steps.refl _) (a := o0) (argsL := [(.ref o1), .null]) (rest := []) (lenOf own_pd_15 rfl) rfl (by show 2 * 0 + _ ≤ _; exact Nat.le_of_eq rfl) (hb hby d15_3) (fun _ _ => ⟨rfl, e0, (by decide : 0 + 1 ≤ _), (by decide : 0 + 200 ≤ _)⟩)
  dsimp only [Pt.U, Pt.locs, Pt.cells, Pt.slots] at X1 l1 y1 z1 st1 hQ1
  subst l1 y1 z1
  obtain ⟨rfl, Nq1, K1, Ex1, Fc1, nb1, ff1, sz1, Fv1, An1, ag1⟩ := hQ1
  have N1 := Fr.app N0 Nq1
  have ne2_o0_nb1 : o0 ≠ nb1 := Nat.ne_of_lt (Nat.lt_of_lt_of_le QE.lt sz1)
  have ne3_o1_nb1 : o1 ≠ nb1 := Nat.ne_of_lt (Nat.lt_of_lt_of_le PE.lt sz1)
  have ne4_ob_nb1 : ob ≠ nb1 := Nat.ne_of_lt (Nat.lt_of_lt_of_le PX.lt sz1)
  have sz_nb1 : h0.size ≤ nb1 := sz1
  have g_nb1 : n0 ≤ nb1 := Nat.le_trans Z0 sz1
  refine go _ (T1.setTop (mkF m 6 #[.val (.ref o0), .val (.ref o1)] [])) (fun t k => st1.trans k) ?_
  refine fin (none) (mkF m 6 #[.val (.ref o0), .val (.ref o1)] []) X1 (fun _ => rfl) (fun fs hr => X1.returnOut hx hret (hb hby d15_6) hr) ?_ (by decide) (by decide)
  exact ⟨rfl, N1, ((Keep.refl h0 [o0]).trans K1 (allS (Or.inl (List.mem_of_getElem? (i := 0) rfl)) all0)), Ex1, Fc1, nb1, _, sz_nb1, Fv1, An1, ag1⟩
theorem own_ef14 (m : MethodId) (o0 : Addr) : entryFrame m #[(.ref o0)] 1 = mkF m 0 #[.val (.ref o0)] [] := by first | (simp [entryFrame, mkF, argsToLocals, Value.category]; done) | rfl
theorem own_pn14 : plainName "java/lang/StringBuilder" = true := by first | (simp [plainName, overriddenIn]; done) | decide +kernel
theorem d14_0 : decode jdk_67_method_42_code 0 = .ok (.new 18, 3) := by decide +kernel
theorem d14_3 : decode jdk_67_method_42_code 3 = .ok (.dup, 1) := by decide +kernel
theorem d14_4 : decode jdk_67_method_42_code 4 = .ok (.aload_n 0, 1) := by decide +kernel
theorem d14_5 : decode jdk_67_method_42_code 5 = .ok (.invokespecial 137, 3) := by decide +kernel
theorem own_pd_16 : parseMethodDescriptor "(Ljava/lang/StringBuilder;)V" = some ⟨[(.object "java/lang/StringBuilder")], none⟩ := by decide +kernel
theorem d14_8 : decode jdk_67_method_42_code 8 = .ok (.areturn, 1) := by decide +kernel
def own_Q14 (Z : State) (o0 : Addr) (ob : Addr) (nn : Nat) (g : Nat → Value) (vc : Int32) (mm : Nat) (h0 : Heap) (n0 : Nat) (v : Option Value) (h : Heap) (L : List Loc) : Prop := ∃ r : Addr, v = some (.ref r) ∧ Fr n0 L ∧ h0.size ≤ r ∧ Keep h0 h [] ∧ Exa Z h r "java/lang/String" ∧ Fld Z h r "java/lang/String" "coder" "B" (.int (0 : Int32)) ∧ ∃ (nb : Addr) (ff : Nat → Value), h0.size ≤ nb ∧ r ≠ nb ∧ Fld Z h r "java/lang/String" "value" "[B" (.ref nb) ∧ own_Av Z h nb .byte mm ff ∧ ∀ i, i < mm → ff i = g i
set_option maxRecDepth 65536 in
set_option maxHeartbeats 40000000 in
theorem rm14 (l : Launch) (Z : State) (a0 : Array Value) (hw : ∀ d ∈ tables_1, d.before a0 Z = true) (ws : List Jvm.Cond) (o0 : Addr) (ob : Addr) (nn : Nat) (g : Nat → Value) (vc : Int32) (mm : Nat) (h0 : Heap) (n0 : Nat) (Z0 : n0 ≤ h0.size) (PS : own_St Z n0 h0) (PE : Exa Z h0 o0 "java/lang/StringBuilder") (PC : Fld Z h0 o0 "java/lang/AbstractStringBuilder" "coder" "B" (.int (0 : Int32))) (PV : Fld Z h0 o0 "java/lang/AbstractStringBuilder" "value" "[B" (.ref ob)) (PA : own_Av Z h0 ob .byte nn g) (PX : Exa Z h0 ob "[B") (PN : Fld Z h0 o0 "java/lang/AbstractStringBuilder" "count" "I" (.int vc)) (Pm : vc.toInt = (mm : Int)) (PM : mm ≤ nn) (Pn : nn ≤ 200) :
    MetFree l (⟨"java/lang/StringBuilder", "toString", "()Ljava/lang/String;"⟩ : MethodName) (head1 (Jvm.Cond.code (⟨"java/lang/StringBuilder", "toString", "()Ljava/lang/String;"⟩ : MethodName) jdk_67_method_42_code 1 (some (.object "java/lang/String")) :: ws) ({ frames := 5, cells := 2, slots := 204, locals := 79 } : Room)) (fun a U => a = #[(.ref o0)] ∧ Z.Warmed39 U.vm ∧ U.heap = h0) (fun _ _ _ _ _ => True) (fun _ U o U' => ∃ v L, o = .returned v ∧ own_Q14 Z o0 ob nn g vc mm h0 n0 v U'.heap L ∧ FrameEnd U o U' L ({ frames := 5, cells := 2, slots := 204, locals := 79 } : Room).cells ({ frames := 5, cells := 2, slots := 204, locals := 79 } : Room).slots) := by
  refine own_metfree (Q := own_Q14 Z o0 ob nn g vc mm h0 n0) (plainFor_of_name own_pn14) ?_
  intro p e s m below meth c s₁ X0 hx hby hml hret hown hnm hZ e0 G go fin
  have N0 := Fr.nil n0
  refine go _ (s₁.setTop (mkF m 0 #[.val (.ref o0)] [])) (fun t k => castTop (own_ef14 m o0) k) ?_
  obtain ⟨T1, h1, X1, e1, E1, Ax1, D1, -, st1⟩ := newO X0 hx hZ hown (hw _ (List.mem_of_getElem? (i := 94) rfl)) (hw _ (List.mem_of_getElem? (i := 27) rfl)) (hw _ (List.mem_of_getElem? (i := 20) rfl)) e0 (g := (mkF m 0 #[.val (.ref o0)] [])) rfl (hb hby d14_0) (by decide) (by decide)
  obtain ⟨b1, gb1⟩ : ∃ z, z = h0.size := ⟨_, rfl⟩
  rw [← gb1] at Ax1 D1 st1
  have ne2_o0_b1 : o0 ≠ b1 := Nat.ne_of_lt (Nat.lt_of_lt_of_le PE.lt (Nat.le_of_eq gb1.symm))
  have ne3_ob_b1 : ob ≠ b1 := Nat.ne_of_lt (Nat.lt_of_lt_of_le PX.lt (Nat.le_of_eq gb1.symm))
  have g_b1 : n0 ≤ b1 := Nat.le_trans Z0 (Nat.le_of_eq gb1.symm)
  have sz_b1 : h0.size ≤ b1 := (Nat.le_of_eq gb1.symm)
  have F_value_b1 : Fld Z h1 b1 "java/lang/String" "value" "[B" .null := D1 (Or.inr (hw _ (List.mem_of_getElem? (i := 28) rfl))) (ty := (.array .byte)) (by decide)
  have F_coder_b1 : Fld Z h1 b1 "java/lang/String" "coder" "B" (.int (0 : Int32)) := D1 (Or.inr (hw _ (List.mem_of_getElem? (i := 29) rfl))) (ty := .byte) (by decide)
  refine go _ (T1.setTop (mkF m 3 #[.val (.ref o0)] [(.ref b1)])) st1 ?_
  refine go _ (T1.setTop (mkF m 4 #[.val (.ref o0)] [(.ref b1), (.ref b1)])) (fun t k => XS.dup X1.here hx rfl (hb hby d14_3) rfl rfl k) ?_
  refine go _ (T1.setTop (mkF m 5 #[.val (.ref o0)] [(.ref o0), (.ref b1), (.ref b1)])) (fun t k => XS.aloadN X1.here hx rfl (hb hby d14_4) rfl rfl k) ?_
  have E4_o0 : Exa Z h1 o0 "java/lang/StringBuilder" := (PE.ext E1)
  have F5_coder_o0 : Fld Z h1 o0 "java/lang/AbstractStringBuilder" "coder" "B" (.int (0 : Int32)) := (PC.ext E1)
  have F6_value_o0 : Fld Z h1 o0 "java/lang/AbstractStringBuilder" "value" "[B" (.ref ob) := (PV.ext E1)
  have A7_ob : own_Av Z h1 ob .byte nn g := (PA.ext E1)
  have E8_ob : Exa Z h1 ob "[B" := (PX.ext E1)
  have F9_count_o0 : Fld Z h1 o0 "java/lang/AbstractStringBuilder" "count" "I" (.int vc) := (PN.ext E1)
  have Z10z : n0 ≤ h1.size := (Nat.le_trans Z0 E1.1)
  have PS11 : own_St Z n0 h1 := PS.keep ((Keep.refl h0 []).ext E1) own_ge0
  obtain ⟨_, _, ⟨T12, L12, k12, n12⟩, -, X12, ⟨Lc12, hQ12, l12, y12, z12⟩, st12⟩ := X1.specialBack hx (y := (⟨"java/lang/String", "<init>", "(Ljava/lang/StringBuilder;)V"⟩ : MethodName)) rfl hown (mvT hZ (hw _ (List.mem_of_getElem? (i := 95) rfl))) (mvT hZ (hw _ (List.mem_of_getElem? (i := 96) rfl))) (mvT hZ (hw _ (List.mem_of_getElem? (i := 98) rfl))) (by decide) (backOf (W := 1) (rm15 l Z a0 hw [] b1 o0 ob nn g vc mm h1 n0 Z10z PS11 Ax1 F_value_b1 F_coder_b1 g_b1 E4_o0 F5_coder_o0 F6_value_o0 A7_ob E8_ob F9_count_o0 Pm PM Pn (Ne.symm ne2_o0_b1) (Ne.symm ne3_ob_b1)) hZ (hw _ (List.mem_of_getElem? (i := 98) rfl)) (hw _ (List.mem_of_getElem? (i := 20) rfl)) (by decide) (by decide)) (g := (mkF m 5 #[.val (.ref o0)] [(.ref o0), (.ref b1), (.ref b1)])) rfl (by rw [hml]; rfl) (Steps.refl _) (a := b1) (argsL := [(.ref o0)]) (rest := [(.ref b1)]) (lenOf own_pd_16 rfl) rfl (by show 2 * 0 + _ ≤ _; exact Nat.le_of_eq rfl) (hb hby d14_5) (fun _ _ => ⟨rfl, e1, (by decide : 1 + 1 ≤ _), (by decide : 4 + 200 ≤ _)⟩)
  dsimp only [Pt.U, Pt.locs, Pt.cells, Pt.slots] at X12 l12 y12 z12 st12 hQ12
  subst l12 y12 z12
  obtain ⟨rfl, Nq12, K12, Ex12, Fc12, nb12, ff12, sz12, Fv12, An12, ag12⟩ := hQ12
  have N12 := Fr.app N0 Nq12
  have ne13_b1_nb12 : b1 ≠ nb12 := Nat.ne_of_lt (Nat.lt_of_lt_of_le Ax1.lt sz12)
  have ne14_o0_nb12 : o0 ≠ nb12 := Nat.ne_of_lt (Nat.lt_of_lt_of_le E4_o0.lt sz12)
  have ne15_ob_nb12 : ob ≠ nb12 := Nat.ne_of_lt (Nat.lt_of_lt_of_le E8_ob.lt sz12)
  have S16s : h0.size ≤ h1.size ∧ True := ⟨E1.1, trivial⟩
  have sz_nb12 : h0.size ≤ nb12 := (Nat.le_trans S16s.1 sz12)
  have g_nb12 : n0 ≤ nb12 := Nat.le_trans Z10z sz12
  refine go _ (T12.setTop (mkF m 8 #[.val (.ref o0)] [(.ref b1)])) (fun t k => st12.trans k) ?_
  refine fin (some (.ref b1)) (mkF m 8 #[.val (.ref o0)] [(.ref b1)]) X12 (fun h => by cases h) (fun fs hr => retOut X12 hx (t := (.object "java/lang/String")) hret rfl (Or.inr (Or.inr (Or.inr (Or.inr ⟨rfl, rfl, rfl⟩)))) (hb hby d14_8) hr) ?_ (by decide) (by decide)
  exact ⟨b1, rfl, N12, sz_b1, (((Keep.refl h0 []).ext E1).trans K12 (allS (Or.inr sz_b1) all0)), Ex12, Fc12, nb12, _, sz_nb12, ne13_b1_nb12, Fv12, An12, ag12⟩
theorem own_ef31 (m : MethodId) (o0 : Addr) (p1 : Int32) (p2 : Int32) (p3 : Int32) : entryFrame m #[(.ref o0), (.int p1), (.int p2), (.int p3)] 4 = mkF m 0 #[.val (.ref o0), .val (.int p1), .val (.int p2), .val (.int p3)] [] := by first | (simp [entryFrame, mkF, argsToLocals, Value.category]; done) | rfl
theorem own_pn31 : plainName "java/lang/String" = true := by first | (simp [plainName, overriddenIn]; done) | decide +kernel
theorem d31_0 : decode jdk_42_method_146_code 0 = .ok (.iload_n 3, 1) := by decide +kernel
theorem d31_1 : decode jdk_42_method_146_code 1 = .ok (.iload_n 2, 1) := by decide +kernel
theorem d31_2 : decode jdk_42_method_146_code 2 = .ok (.iload_n 3, 1) := by decide +kernel
theorem d31_3 : decode jdk_42_method_146_code 3 = .ok (.isub, 1) := by decide +kernel
theorem d31_4 : decode jdk_42_method_146_code 4 = .ok (.if_icmp .ge 20, 3) := by decide +kernel
theorem d31_7 : decode jdk_42_method_146_code 7 = .ok (.aload_n 0, 1) := by decide +kernel
theorem d31_8 : decode jdk_42_method_146_code 8 = .ok (.iload_n 1, 1) := by decide +kernel
theorem d31_9 : decode jdk_42_method_146_code 9 = .ok (.aload_n 0, 1) := by decide +kernel
theorem d31_10 : decode jdk_42_method_146_code 10 = .ok (.iload_n 1, 1) := by decide +kernel
theorem d31_11 : decode jdk_42_method_146_code 11 = .ok (.iload_n 3, 1) := by decide +kernel
theorem d31_12 : decode jdk_42_method_146_code 12 = .ok (.iadd, 1) := by decide +kernel
theorem d31_13 : decode jdk_42_method_146_code 13 = .ok (.iload_n 3, 1) := by decide +kernel
theorem d31_14 : decode jdk_42_method_146_code 14 = .ok (.invokestatic 212, 3) := by decide +kernel
theorem d31_17 : decode jdk_42_method_146_code 17 = .ok (.iload_n 3, 1) := by decide +kernel
theorem d31_18 : decode jdk_42_method_146_code 18 = .ok (.iconst 1, 1) := by decide +kernel
theorem d31_19 : decode jdk_42_method_146_code 19 = .ok (.ishl, 1) := by decide +kernel
theorem d31_20 : decode jdk_42_method_146_code 20 = .ok (.istore_n 3, 1) := by decide +kernel
theorem d31_21 : decode jdk_42_method_146_code 21 = .ok (.goto (-21), 3) := by decide +kernel
theorem d31_24 : decode jdk_42_method_146_code 24 = .ok (.aload_n 0, 1) := by decide +kernel
theorem d31_25 : decode jdk_42_method_146_code 25 = .ok (.iload_n 1, 1) := by decide +kernel
theorem d31_26 : decode jdk_42_method_146_code 26 = .ok (.aload_n 0, 1) := by decide +kernel
theorem d31_27 : decode jdk_42_method_146_code 27 = .ok (.iload_n 1, 1) := by decide +kernel
theorem d31_28 : decode jdk_42_method_146_code 28 = .ok (.iload_n 3, 1) := by decide +kernel
theorem d31_29 : decode jdk_42_method_146_code 29 = .ok (.iadd, 1) := by decide +kernel
theorem d31_30 : decode jdk_42_method_146_code 30 = .ok (.iload_n 2, 1) := by decide +kernel
theorem d31_31 : decode jdk_42_method_146_code 31 = .ok (.iload_n 3, 1) := by decide +kernel
theorem d31_32 : decode jdk_42_method_146_code 32 = .ok (.isub, 1) := by decide +kernel
theorem d31_33 : decode jdk_42_method_146_code 33 = .ok (.invokestatic 212, 3) := by decide +kernel
theorem d31_36 : decode jdk_42_method_146_code 36 = .ok (.return_, 1) := by decide +kernel
def own_Q31 (Z : State) (o0 : Addr) (p1 : Int32) (p2 : Int32) (p3 : Int32) (jj : Nat) (F0 : Nat → Value) (f : Nat → Value) (h0 : Heap) (n0 : Nat) (v : Option Value) (h : Heap) (L : List Loc) : Prop := v = none ∧ Fr n0 L ∧ Keep h0 h [o0] ∧ ∃ ff : Nat → Value, own_Av Z h o0 .byte (3 * jj) ff ∧ ∀ i, i < 3 * jj → ff i = f (i % 3)
set_option maxRecDepth 65536 in
set_option maxHeartbeats 40000000 in
theorem rm31 (l : Launch) (Z : State) (a0 : Array Value) (hw : ∀ d ∈ tables_1, d.before a0 Z = true) (ws : List Jvm.Cond) (o0 : Addr) (p1 : Int32) (p2 : Int32) (p3 : Int32) (jj : Nat) (F0 : Nat → Value) (f : Nat → Value) (h0 : Heap) (n0 : Nat) (Z0 : n0 ≤ h0.size) (PA : own_Av Z h0 o0 .byte (3 * jj) F0) (Pz : p1 = (0 : Int32)) (Pl : p2.toInt = ((3 * jj : Nat) : Int)) (Pc : p3.toInt = ((3 : Nat) : Int)) (B1 : 1 ≤ jj) (B2 : jj ≤ 100) (PF : ∀ i, i < 3 → F0 i = f (i % 3)) (Pg : n0 ≤ o0) :
    MetFree l (⟨"java/lang/String", "repeatCopyRest", "([BIII)V"⟩ : MethodName) (head1 (Jvm.Cond.code (⟨"java/lang/String", "repeatCopyRest", "([BIII)V"⟩ : MethodName) jdk_42_method_146_code 4 none :: ws) ({ frames := 1, cells := 0, slots := 0, locals := 18 } : Room)) (fun a U => a = #[(.ref o0), (.int p1), (.int p2), (.int p3)] ∧ Z.Warmed39 U.vm ∧ U.heap = h0) (fun _ _ _ _ _ => True) (fun _ U o U' => ∃ v L, o = .returned v ∧ own_Q31 Z o0 p1 p2 p3 jj F0 f h0 n0 v U'.heap L ∧ FrameEnd U o U' L ({ frames := 1, cells := 0, slots := 0, locals := 18 } : Room).cells ({ frames := 1, cells := 0, slots := 0, locals := 18 } : Room).slots) := by
  refine own_metfree (Q := own_Q31 Z o0 p1 p2 p3 jj F0 f h0 n0) (plainFor_of_name own_pn31) ?_
  intro p e s m below meth c s₁ X0 hx hby hml hret hown hnm hZ e0 G go fin
  have N0 := Fr.nil n0
  refine go _ (s₁.setTop (mkF m 0 #[.val (.ref o0), .val (.int p1), .val (.int p2), .val (.int p3)] [])) (fun t k => castTop (own_ef31 m o0 p1 p2 p3) k) ?_
  rw [Pz]
  have lp : ∀ (klp : Nat) (hlp : Heap) (Tlp : State) (Llp : List Loc) (Xlp : Stand p l e ({ frames := 1, cells := 0, slots := 0, locals := 18 } : Room) s m #[(.ref o0), (.int p1), (.int p2), (.int p3)] below meth c Tlp Llp 0 0) (Nlp : Fr n0 Llp) (elp : Tlp.heap = hlp) (vc : Int32) (cc : Nat) (F : Nat → Value) (hmlp : (3 * jj - cc) < klp) (Klp : Keep h0 hlp [o0]) (J0lp : own_Av Z hlp o0 .byte (3 * jj) F) (Hc : vc.toInt = (cc : Int)) (H3 : cc % 3 = 0) (H33 : 3 ≤ cc) (Hle : cc ≤ 3 * jj) (HF : ∀ i, i < cc → F i = f (i % 3)), G (Tlp.setTop (mkF m 0 #[.val (.ref o0), .val (.int (0 : Int32)), .val (.int p2), .val (.int vc)] [])) := by
    intro klp
    induction klp with
    | zero => intro hlp Tlp Llp Xlp Nlp elp vc cc F hmlp Klp J0lp Hc H3 H33 Hle HF; exact absurd hmlp (Nat.not_lt_zero _)
    | succ klp ihlp =>
      intro hlp Tlp Llp Xlp Nlp elp vc cc F hmlp Klp J0lp Hc H3 H33 Hle HF
      refine go _ (Tlp.setTop (mkF m 1 #[.val (.ref o0), .val (.int (0 : Int32)), .val (.int p2), .val (.int vc)] [(.int vc)])) (fun t k => XS.iloadN Xlp.here hx rfl (hb hby d31_0) rfl k) ?_
      refine go _ (Tlp.setTop (mkF m 2 #[.val (.ref o0), .val (.int (0 : Int32)), .val (.int p2), .val (.int vc)] [(.int p2), (.int vc)])) (fun t k => XS.iloadN Xlp.here hx rfl (hb hby d31_1) rfl k) ?_
      refine go _ (Tlp.setTop (mkF m 3 #[.val (.ref o0), .val (.int (0 : Int32)), .val (.int p2), .val (.int vc)] [(.int vc), (.int p2), (.int vc)])) (fun t k => XS.iloadN Xlp.here hx rfl (hb hby d31_2) rfl k) ?_
      refine go _ (Tlp.setTop (mkF m 4 #[.val (.ref o0), .val (.int (0 : Int32)), .val (.int p2), .val (.int vc)] [(.int (p2 - vc)), (.int vc)])) (fun t k => XS.isub Xlp.here hx rfl (hb hby d31_3) rfl k) ?_
      rcases Decidable.em (vc < (p2 - vc)) with hc4 | hc4
      · refine go _ (Tlp.setTop (mkF m 7 #[.val (.ref o0), .val (.int (0 : Int32)), .val (.int p2), .val (.int vc)] [])) (fun t k => XS.icmpNo Xlp.here hx rfl (hb hby d31_4) rfl (tlt hc4).2.1 k) ?_
        refine go _ (Tlp.setTop (mkF m 8 #[.val (.ref o0), .val (.int (0 : Int32)), .val (.int p2), .val (.int vc)] [(.ref o0)])) (fun t k => XS.aloadN Xlp.here hx rfl (hb hby d31_7) rfl rfl k) ?_
        refine go _ (Tlp.setTop (mkF m 9 #[.val (.ref o0), .val (.int (0 : Int32)), .val (.int p2), .val (.int vc)] [(.int (0 : Int32)), (.ref o0)])) (fun t k => XS.iloadN Xlp.here hx rfl (hb hby d31_8) rfl k) ?_
        refine go _ (Tlp.setTop (mkF m 10 #[.val (.ref o0), .val (.int (0 : Int32)), .val (.int p2), .val (.int vc)] [(.ref o0), (.int (0 : Int32)), (.ref o0)])) (fun t k => XS.aloadN Xlp.here hx rfl (hb hby d31_9) rfl rfl k) ?_
        refine go _ (Tlp.setTop (mkF m 11 #[.val (.ref o0), .val (.int (0 : Int32)), .val (.int p2), .val (.int vc)] [(.int (0 : Int32)), (.ref o0), (.int (0 : Int32)), (.ref o0)])) (fun t k => XS.iloadN Xlp.here hx rfl (hb hby d31_10) rfl k) ?_
        refine go _ (Tlp.setTop (mkF m 12 #[.val (.ref o0), .val (.int (0 : Int32)), .val (.int p2), .val (.int vc)] [(.int vc), (.int (0 : Int32)), (.ref o0), (.int (0 : Int32)), (.ref o0)])) (fun t k => XS.iloadN Xlp.here hx rfl (hb hby d31_11) rfl k) ?_
        refine go _ (Tlp.setTop (mkF m 13 #[.val (.ref o0), .val (.int (0 : Int32)), .val (.int p2), .val (.int vc)] [(.int ((0 : Int32) + vc)), (.ref o0), (.int (0 : Int32)), (.ref o0)])) (fun t k => XS.iadd Xlp.here hx rfl (hb hby d31_12) rfl k) ?_
        refine go _ (Tlp.setTop (mkF m 14 #[.val (.ref o0), .val (.int (0 : Int32)), .val (.int p2), .val (.int vc)] [(.int vc), (.int ((0 : Int32) + vc)), (.ref o0), (.int (0 : Int32)), (.ref o0)])) (fun t k => XS.iloadN Xlp.here hx rfl (hb hby d31_13) rfl k) ?_
        have hlt : cc < 3 * jj - cc := (own_lt Hc (own_subn Pl Hc Hle (by omega))).mp hc4
        obtain ⟨T1, h1, L1, X1, e1, N1, K1, Av1, st1⟩ := own_cpy Xlp hx hZ hown (hw _ (List.mem_of_getElem? (i := 78) rfl)) (hw _ (List.mem_of_getElem? (i := 81) rfl)) (hw _ (List.mem_of_getElem? (i := 79) rfl)) (hw _ (List.mem_of_getElem? (i := 80) rfl)) elp J0lp J0lp rfl (i := 0) (j := cc) (k := cc) (by decide) (by rw [Int32.zero_add]; exact Hc) Hc (by omega) (by omega) Nlp Pg (fr := (mkF m 14 #[.val (.ref o0), .val (.int (0 : Int32)), .val (.int p2), .val (.int vc)] [(.int vc), (.int ((0 : Int32) + vc)), (.ref o0), (.int (0 : Int32)), (.ref o0)])) rfl (by rw [hml]; rfl) rfl (hb hby d31_14) (by decide) (W := 0) (by show 2 * 0 + _ ≤ _; exact Nat.le_of_eq rfl) (by decide)
        refine go _ (T1.setTop (mkF m 17 #[.val (.ref o0), .val (.int (0 : Int32)), .val (.int p2), .val (.int vc)] [])) st1 ?_
        refine go _ (T1.setTop (mkF m 18 #[.val (.ref o0), .val (.int (0 : Int32)), .val (.int p2), .val (.int vc)] [(.int vc)])) (fun t k => XS.iloadN X1.here hx rfl (hb hby d31_17) rfl k) ?_
        refine go _ (T1.setTop (mkF m 19 #[.val (.ref o0), .val (.int (0 : Int32)), .val (.int p2), .val (.int vc)] [(.int (1 : Int32)), (.int vc)])) (fun t k => XS.iconst X1.here hx rfl (hb hby d31_18) k) ?_
        refine go _ (T1.setTop (mkF m 20 #[.val (.ref o0), .val (.int (0 : Int32)), .val (.int p2), .val (.int vc)] [(.int (vc <<< ((1 : Int32) &&& 31)))])) (fun t k => XS.ishl X1.here hx rfl (hb hby d31_19) rfl k) ?_
        refine go _ (T1.setTop (mkF m 21 #[.val (.ref o0), .val (.int (0 : Int32)), .val (.int p2), .val (.int (vc <<< ((1 : Int32) &&& 31)))] [])) (fun t k => XS.istoreN X1.here hx rfl (hb hby d31_20) rfl (l' := #[.val (.ref o0), .val (.int (0 : Int32)), .val (.int p2), .val (.int (vc <<< ((1 : Int32) &&& 31)))]) rfl k) ?_
        have hc2 : (vc <<< ((1 : Int32) &&& 31)).toInt = ((cc + cc : Nat) : Int) := by rw [own_shl1 Hc (by omega)]; omega
        refine go _ (T1.setTop (mkF m 0 #[.val (.ref o0), .val (.int (0 : Int32)), .val (.int p2), .val (.int (vc <<< ((1 : Int32) &&& 31)))] [])) (fun t k => XS.goto X1.here hx rfl (pc0 := 21) (pc' := 0) rfl (hb hby d31_21) (by decide) (by decide) k) ?_
        exact ihlp h1 T1 _ X1 N1 e1 (vc <<< ((1 : Int32) &&& 31)) (cc + cc) (fun q => if cc ≤ q ∧ q < cc + cc then F (0 + (q - cc)) else F q) (by omega) (((Keep.refl h0 [o0]).trans Klp (allS (Or.inl (List.mem_of_getElem? (i := 0) rfl)) all0)).trans K1 (allS (Or.inl (List.mem_of_getElem? (i := 0) rfl)) all0)) Av1 hc2 (by omega) (by omega) (by omega) (own_per (lim := 0) H3 H33 HF cc (Nat.le_refl _))
      · refine go _ (Tlp.setTop (mkF m 24 #[.val (.ref o0), .val (.int (0 : Int32)), .val (.int p2), .val (.int vc)] [])) (fun t k => XS.icmpYes Xlp.here hx rfl (pc0 := 4) (pc' := 24) rfl (hb hby d31_4) rfl (flt hc4).2.1 (by decide) (by decide) k) ?_
        refine go _ (Tlp.setTop (mkF m 25 #[.val (.ref o0), .val (.int (0 : Int32)), .val (.int p2), .val (.int vc)] [(.ref o0)])) (fun t k => XS.aloadN Xlp.here hx rfl (hb hby d31_24) rfl rfl k) ?_
        refine go _ (Tlp.setTop (mkF m 26 #[.val (.ref o0), .val (.int (0 : Int32)), .val (.int p2), .val (.int vc)] [(.int (0 : Int32)), (.ref o0)])) (fun t k => XS.iloadN Xlp.here hx rfl (hb hby d31_25) rfl k) ?_
        refine go _ (Tlp.setTop (mkF m 27 #[.val (.ref o0), .val (.int (0 : Int32)), .val (.int p2), .val (.int vc)] [(.ref o0), (.int (0 : Int32)), (.ref o0)])) (fun t k => XS.aloadN Xlp.here hx rfl (hb hby d31_26) rfl rfl k) ?_
        refine go _ (Tlp.setTop (mkF m 28 #[.val (.ref o0), .val (.int (0 : Int32)), .val (.int p2), .val (.int vc)] [(.int (0 : Int32)), (.ref o0), (.int (0 : Int32)), (.ref o0)])) (fun t k => XS.iloadN Xlp.here hx rfl (hb hby d31_27) rfl k) ?_
        refine go _ (Tlp.setTop (mkF m 29 #[.val (.ref o0), .val (.int (0 : Int32)), .val (.int p2), .val (.int vc)] [(.int vc), (.int (0 : Int32)), (.ref o0), (.int (0 : Int32)), (.ref o0)])) (fun t k => XS.iloadN Xlp.here hx rfl (hb hby d31_28) rfl k) ?_
        refine go _ (Tlp.setTop (mkF m 30 #[.val (.ref o0), .val (.int (0 : Int32)), .val (.int p2), .val (.int vc)] [(.int ((0 : Int32) + vc)), (.ref o0), (.int (0 : Int32)), (.ref o0)])) (fun t k => XS.iadd Xlp.here hx rfl (hb hby d31_29) rfl k) ?_
        refine go _ (Tlp.setTop (mkF m 31 #[.val (.ref o0), .val (.int (0 : Int32)), .val (.int p2), .val (.int vc)] [(.int p2), (.int ((0 : Int32) + vc)), (.ref o0), (.int (0 : Int32)), (.ref o0)])) (fun t k => XS.iloadN Xlp.here hx rfl (hb hby d31_30) rfl k) ?_
        refine go _ (Tlp.setTop (mkF m 32 #[.val (.ref o0), .val (.int (0 : Int32)), .val (.int p2), .val (.int vc)] [(.int vc), (.int p2), (.int ((0 : Int32) + vc)), (.ref o0), (.int (0 : Int32)), (.ref o0)])) (fun t k => XS.iloadN Xlp.here hx rfl (hb hby d31_31) rfl k) ?_
        refine go _ (Tlp.setTop (mkF m 33 #[.val (.ref o0), .val (.int (0 : Int32)), .val (.int p2), .val (.int vc)] [(.int (p2 - vc)), (.int ((0 : Int32) + vc)), (.ref o0), (.int (0 : Int32)), (.ref o0)])) (fun t k => XS.isub Xlp.here hx rfl (hb hby d31_32) rfl k) ?_
        have hge : 3 * jj - cc ≤ cc := by have := mt (own_lt Hc (own_subn Pl Hc Hle (by omega))).mpr hc4; omega
        obtain ⟨T2, h2, L2, X2, e2, N2, K2, Av2, st2⟩ := own_cpy Xlp hx hZ hown (hw _ (List.mem_of_getElem? (i := 78) rfl)) (hw _ (List.mem_of_getElem? (i := 81) rfl)) (hw _ (List.mem_of_getElem? (i := 79) rfl)) (hw _ (List.mem_of_getElem? (i := 80) rfl)) elp J0lp J0lp rfl (i := 0) (j := cc) (k := (3 * jj - cc)) (by decide) (by rw [Int32.zero_add]; exact Hc) (own_subn Pl Hc Hle (by omega)) (by omega) (by omega) Nlp Pg (fr := (mkF m 33 #[.val (.ref o0), .val (.int (0 : Int32)), .val (.int p2), .val (.int vc)] [(.int (p2 - vc)), (.int ((0 : Int32) + vc)), (.ref o0), (.int (0 : Int32)), (.ref o0)])) rfl (by rw [hml]; rfl) rfl (hb hby d31_33) (by decide) (W := 0) (by show 2 * 0 + _ ≤ _; exact Nat.le_of_eq rfl) (by decide)
        refine go _ (T2.setTop (mkF m 36 #[.val (.ref o0), .val (.int (0 : Int32)), .val (.int p2), .val (.int vc)] [])) st2 ?_
        refine fin (none) (mkF m 36 #[.val (.ref o0), .val (.int (0 : Int32)), .val (.int p2), .val (.int vc)] []) X2 (fun _ => rfl) (fun fs hr => X2.returnOut hx hret (hb hby d31_36) hr) ?_ (by decide) (by decide)
        try rw [e2]
        exact ⟨rfl, N2, (((Keep.refl h0 [o0]).trans Klp (allS (Or.inl (List.mem_of_getElem? (i := 0) rfl)) all0)).trans K2 (allS (Or.inl (List.mem_of_getElem? (i := 0) rfl)) all0)), _, Av2, fun i hi => own_per (lim := 0) H3 H33 HF (3 * jj - cc) hge i (by omega)⟩
  exact lp ((3 * jj - 3) + 1) h0 s₁ _ X0 N0 e0 p3 3 F0 (Nat.lt_succ_self _) (Keep.refl h0 [o0]) PA Pc (by decide) (Nat.le_refl 3) (by omega) PF
theorem own_ef32 (m : MethodId) (o0 : Addr) (o1 : Addr) (p2 : Int32) : entryFrame m #[(.ref o0), (.ref o1), (.int p2)] 3 = mkF m 0 #[.val (.ref o0), .val (.ref o1), .val (.int p2)] [] := by first | (simp [entryFrame, mkF, argsToLocals, Value.category]; done) | rfl
theorem own_pn32 : plainName "java/lang/String" = true := by first | (simp [plainName, overriddenIn]; done) | decide +kernel
theorem d32_0 : decode jdk_42_method_151_code 0 = .ok (.aload_n 0, 1) := by decide +kernel
theorem d32_1 : decode jdk_42_method_151_code 1 = .ok (.invokespecial 1, 3) := by decide +kernel
theorem d32_4 : decode jdk_42_method_151_code 4 = .ok (.aload_n 0, 1) := by decide +kernel
theorem d32_5 : decode jdk_42_method_151_code 5 = .ok (.aload_n 1, 1) := by decide +kernel
theorem d32_6 : decode jdk_42_method_151_code 6 = .ok (.putfield 9, 3) := by decide +kernel
theorem d32_9 : decode jdk_42_method_151_code 9 = .ok (.aload_n 0, 1) := by decide +kernel
theorem d32_10 : decode jdk_42_method_151_code 10 = .ok (.iload_n 2, 1) := by decide +kernel
theorem d32_11 : decode jdk_42_method_151_code 11 = .ok (.putfield 15, 3) := by decide +kernel
theorem d32_14 : decode jdk_42_method_151_code 14 = .ok (.return_, 1) := by decide +kernel
def own_Q32 (Z : State) (o0 : Addr) (o1 : Addr) (p2 : Int32) (h0 : Heap) (n0 : Nat) (v : Option Value) (h : Heap) (L : List Loc) : Prop := v = none ∧ Fr n0 L ∧ Keep h0 h [o0] ∧ Exa Z h o0 "java/lang/String" ∧ Fld Z h o0 "java/lang/String" "coder" "B" (.int (0 : Int32)) ∧ Fld Z h o0 "java/lang/String" "value" "[B" (.ref o1)
set_option maxRecDepth 65536 in
set_option maxHeartbeats 40000000 in
theorem rm32 (l : Launch) (Z : State) (a0 : Array Value) (hw : ∀ d ∈ tables_1, d.before a0 Z = true) (ws : List Jvm.Cond) (o0 : Addr) (o1 : Addr) (p2 : Int32) (h0 : Heap) (n0 : Nat) (Z0 : n0 ≤ h0.size) (QE : Exa Z h0 o0 "java/lang/String") (QV : Fld Z h0 o0 "java/lang/String" "value" "[B" .null) (QC : Fld Z h0 o0 "java/lang/String" "coder" "B" (.int (0 : Int32))) (Pg : n0 ≤ o0) (Pz : p2 = (0 : Int32)) :
    MetFree l (⟨"java/lang/String", "<init>", "([BB)V"⟩ : MethodName) (head1 (Jvm.Cond.code (⟨"java/lang/String", "<init>", "([BB)V"⟩ : MethodName) jdk_42_method_151_code 3 none :: ws) ({ frames := 1, cells := 0, slots := 0, locals := 12 } : Room)) (fun a U => a = #[(.ref o0), (.ref o1), (.int p2)] ∧ Z.Warmed39 U.vm ∧ U.heap = h0) (fun _ _ _ _ _ => True) (fun _ U o U' => ∃ v L, o = .returned v ∧ own_Q32 Z o0 o1 p2 h0 n0 v U'.heap L ∧ FrameEnd U o U' L ({ frames := 1, cells := 0, slots := 0, locals := 12 } : Room).cells ({ frames := 1, cells := 0, slots := 0, locals := 12 } : Room).slots) := by
  refine own_metfree (Q := own_Q32 Z o0 o1 p2 h0 n0) (plainFor_of_name own_pn32) ?_
  intro p e s m below meth c s₁ X0 hx hby hml hret hown hnm hZ e0 G go fin
  have N0 := Fr.nil n0
  refine go _ (s₁.setTop (mkF m 0 #[.val (.ref o0), .val (.ref o1), .val (.int p2)] [])) (fun t k => castTop (own_ef32 m o0 o1 p2) k) ?_
  rw [Pz]
  refine go _ (s₁.setTop (mkF m 1 #[.val (.ref o0), .val (.ref o1), .val (.int (0 : Int32))] [(.ref o0)])) (fun t k => XS.aloadN X0.here hx rfl (hb hby d32_0) rfl rfl k) ?_
  obtain ⟨T1, X1, e1, st1⟩ := initO X0 hx hZ hown (hw _ (List.mem_of_getElem? (i := 102) rfl)) (hw _ (List.mem_of_getElem? (i := 17) rfl)) (hw _ (List.mem_of_getElem? (i := 18) rfl)) e0 (g := (mkF m 1 #[.val (.ref o0), .val (.ref o1), .val (.int (0 : Int32))] [(.ref o0)])) rfl (by rw [hml]; rfl) rfl (hb hby d32_1) (by decide) (W := 0) (by show 2 * 0 + _ ≤ _; exact Nat.le_of_eq rfl) (by decide)
  refine go _ (T1.setTop (mkF m 4 #[.val (.ref o0), .val (.ref o1), .val (.int (0 : Int32))] [])) st1 ?_
  refine go _ (T1.setTop (mkF m 5 #[.val (.ref o0), .val (.ref o1), .val (.int (0 : Int32))] [(.ref o0)])) (fun t k => XS.aloadN X1.here hx rfl (hb hby d32_4) rfl rfl k) ?_
  refine go _ (T1.setTop (mkF m 6 #[.val (.ref o0), .val (.ref o1), .val (.int (0 : Int32))] [(.ref o1), (.ref o0)])) (fun t k => XS.aloadN X1.here hx rfl (hb hby d32_5) rfl rfl k) ?_
  obtain ⟨T2, h2, X2, e2, W2, st2⟩ := putF X1 hx hZ hown (host := "") (Or.inl (hw _ (List.mem_of_getElem? (i := 47) rfl))) Via.refl e1 QV QE (Or.inr ⟨(hw _ (List.mem_of_getElem? (i := 28) rfl)), rfl, hnm⟩) (hw _ (List.mem_of_getElem? (i := 27) rfl)) (ty := (.array .byte)) (by decide) rfl rfl (g := (mkF m 6 #[.val (.ref o0), .val (.ref o1), .val (.int (0 : Int32))] [(.ref o1), (.ref o0)])) rfl rfl (hb hby d32_6)
  have Fw2 : Fld Z h2 o0 "java/lang/String" "value" "[B" (.ref o1) := QV.same W2
  have N2 := Fr.snoc X2 N0 Pg
  refine go _ (T2.setTop (mkF m 9 #[.val (.ref o0), .val (.ref o1), .val (.int (0 : Int32))] [])) st2 ?_
  refine go _ (T2.setTop (mkF m 10 #[.val (.ref o0), .val (.ref o1), .val (.int (0 : Int32))] [(.ref o0)])) (fun t k => XS.aloadN X2.here hx rfl (hb hby d32_9) rfl rfl k) ?_
  refine go _ (T2.setTop (mkF m 11 #[.val (.ref o0), .val (.ref o1), .val (.int (0 : Int32))] [(.int (0 : Int32)), (.ref o0)])) (fun t k => XS.iloadN X2.here hx rfl (hb hby d32_10) rfl k) ?_
  have F3_coder_o0 : Fld Z h2 o0 "java/lang/String" "coder" "B" (.int (0 : Int32)) := (QC.other W2 (Or.inr (slot_ne (Or.inr (hw _ (List.mem_of_getElem? (i := 29) rfl))) (Or.inr (hw _ (List.mem_of_getElem? (i := 28) rfl))) (by decide) (t := .byte) (t' := (.array .byte)) (by decide) (by decide))))
  have E4_o0 : Exa Z h2 o0 "java/lang/String" := (QE.wr W2)
  obtain ⟨T5, h5, X5, e5, W5, st5⟩ := putF X2 hx hZ hown (host := "") (Or.inl (hw _ (List.mem_of_getElem? (i := 54) rfl))) Via.refl e2 F3_coder_o0 E4_o0 (Or.inr ⟨(hw _ (List.mem_of_getElem? (i := 29) rfl)), rfl, hnm⟩) (hw _ (List.mem_of_getElem? (i := 27) rfl)) (ty := .byte) (by decide) rfl rfl (g := (mkF m 11 #[.val (.ref o0), .val (.ref o1), .val (.int (0 : Int32))] [(.int (0 : Int32)), (.ref o0)])) rfl rfl (hb hby d32_11)
  have Fw5 : Fld Z h5 o0 "java/lang/String" "coder" "B" (.int (0 : Int32)) := F3_coder_o0.same W5
  have N5 := Fr.snoc X5 N2 Pg
  refine go _ (T5.setTop (mkF m 14 #[.val (.ref o0), .val (.ref o1), .val (.int (0 : Int32))] [])) st5 ?_
  have E6_o0 : Exa Z h5 o0 "java/lang/String" := (E4_o0.wr W5)
  have F7_value_o0 : Fld Z h5 o0 "java/lang/String" "value" "[B" (.ref o1) := (Fw2.other W5 (Or.inr (slot_ne (Or.inr (hw _ (List.mem_of_getElem? (i := 28) rfl))) (Or.inr (hw _ (List.mem_of_getElem? (i := 29) rfl))) (by decide) (t := (.array .byte)) (t' := .byte) (by decide) (by decide))))
  refine fin (none) (mkF m 14 #[.val (.ref o0), .val (.ref o1), .val (.int (0 : Int32))] []) X5 (fun _ => rfl) (fun fs hr => X5.returnOut hx hret (hb hby d32_14) hr) ?_ (by decide) (by decide)
  try rw [e5]
  exact ⟨rfl, N5, (((Keep.refl h0 [o0]).wr W2 (Or.inl (List.mem_of_getElem? (i := 0) rfl))).wr W5 (Or.inl (List.mem_of_getElem? (i := 0) rfl))), E6_o0, Fw5, F7_value_o0⟩
theorem own_ef13_1 (m : MethodId) (o0 : Addr) (p1 : Int32) : entryFrame m #[(.ref o0), (.int p1)] 5 = mkF m 0 #[.val (.ref o0), .val (.int p1), .unset, .unset, .unset] [] := by first | (simp [entryFrame, mkF, argsToLocals, Value.category]; done) | rfl
theorem own_pn13 : plainName "java/lang/String" = true := by first | (simp [plainName, overriddenIn]; done) | decide +kernel
theorem d13_0 : decode jdk_42_method_145_code 0 = .ok (.iload_n 1, 1) := by decide +kernel
theorem d13_1 : decode jdk_42_method_145_code 1 = .ok (.ifCond .ge 31, 3) := by decide +kernel
theorem d13_32 : decode jdk_42_method_145_code 32 = .ok (.iload_n 1, 1) := by decide +kernel
theorem d13_33 : decode jdk_42_method_145_code 33 = .ok (.iconst 1, 1) := by decide +kernel
theorem d13_34 : decode jdk_42_method_145_code 34 = .ok (.if_icmp .ne 5, 3) := by decide +kernel
theorem d13_37 : decode jdk_42_method_145_code 37 = .ok (.aload_n 0, 1) := by decide +kernel
theorem d13_38 : decode jdk_42_method_145_code 38 = .ok (.areturn, 1) := by decide +kernel
def own_Q13_1 (Z : State) (o0 : Addr) (p1 : Int32) (h0 : Heap) (n0 : Nat) (v : Option Value) (h : Heap) (L : List Loc) : Prop := v = some (.ref o0) ∧ Fr n0 L ∧ h = h0
set_option maxRecDepth 65536 in
set_option maxHeartbeats 40000000 in
theorem rm13_1 (l : Launch) (Z : State) (a0 : Array Value) (hw : ∀ d ∈ tables_1, d.before a0 Z = true) (ws : List Jvm.Cond) (o0 : Addr) (p1 : Int32) (h0 : Heap) (n0 : Nat) (Z0 : n0 ≤ h0.size) (Pz : p1 = (1 : Int32)) :
    MetFree l (⟨"java/lang/String", "repeat", "(I)Ljava/lang/String;"⟩ : MethodName) (head1 (Jvm.Cond.code (⟨"java/lang/String", "repeat", "(I)Ljava/lang/String;"⟩ : MethodName) jdk_42_method_145_code 5 (some (.object "java/lang/String")) :: ws) ({ frames := 0, cells := 0, slots := 0, locals := 0 } : Room)) (fun a U => a = #[(.ref o0), (.int p1)] ∧ Z.Warmed39 U.vm ∧ U.heap = h0) (fun _ _ _ _ _ => True) (fun _ U o U' => ∃ v L, o = .returned v ∧ own_Q13_1 Z o0 p1 h0 n0 v U'.heap L ∧ FrameEnd U o U' L ({ frames := 0, cells := 0, slots := 0, locals := 0 } : Room).cells ({ frames := 0, cells := 0, slots := 0, locals := 0 } : Room).slots) := by
  refine own_metfree (Q := own_Q13_1 Z o0 p1 h0 n0) (plainFor_of_name own_pn13) ?_
  intro p e s m below meth c s₁ X0 hx hby hml hret hown hnm hZ e0 G go fin
  have N0 := Fr.nil n0
  refine go _ (s₁.setTop (mkF m 0 #[.val (.ref o0), .val (.int p1), .unset, .unset, .unset] [])) (fun t k => castTop (own_ef13_1 m o0 p1) k) ?_
  rw [Pz]
  refine go _ (s₁.setTop (mkF m 1 #[.val (.ref o0), .val (.int (1 : Int32)), .unset, .unset, .unset] [(.int (1 : Int32))])) (fun t k => XS.iloadN X0.here hx rfl (hb hby d13_0) rfl k) ?_
  have hc1 : ¬ ((1 : Int32) < (0 : Int32)) := by decide
  refine go _ (s₁.setTop (mkF m 32 #[.val (.ref o0), .val (.int (1 : Int32)), .unset, .unset, .unset] [])) (fun t k => XS.ifYes X0.here hx rfl (pc0 := 1) (pc' := 32) rfl (hb hby d13_1) rfl ((if0 _ _).trans (flt hc1).2.1) (by decide) (by decide) k) ?_
  refine go _ (s₁.setTop (mkF m 33 #[.val (.ref o0), .val (.int (1 : Int32)), .unset, .unset, .unset] [(.int (1 : Int32))])) (fun t k => XS.iloadN X0.here hx rfl (hb hby d13_32) rfl k) ?_
  refine go _ (s₁.setTop (mkF m 34 #[.val (.ref o0), .val (.int (1 : Int32)), .unset, .unset, .unset] [(.int (1 : Int32)), (.int (1 : Int32))])) (fun t k => XS.iconst X0.here hx rfl (hb hby d13_33) k) ?_
  have hc34 : (1 : Int32) = (1 : Int32) := by decide
  refine go _ (s₁.setTop (mkF m 37 #[.val (.ref o0), .val (.int (1 : Int32)), .unset, .unset, .unset] [])) (fun t k => XS.icmpNo X0.here hx rfl (hb hby d13_34) rfl (teq hc34).2 k) ?_
  refine go _ (s₁.setTop (mkF m 38 #[.val (.ref o0), .val (.int (1 : Int32)), .unset, .unset, .unset] [(.ref o0)])) (fun t k => XS.aloadN X0.here hx rfl (hb hby d13_37) rfl rfl k) ?_
  refine fin (some (.ref o0)) (mkF m 38 #[.val (.ref o0), .val (.int (1 : Int32)), .unset, .unset, .unset] [(.ref o0)]) X0 (fun h => by cases h) (fun fs hr => retOut X0 hx (t := (.object "java/lang/String")) hret rfl (Or.inr (Or.inr (Or.inr (Or.inr ⟨rfl, rfl, rfl⟩)))) (hb hby d13_38) hr) ?_ (by decide) (by decide)
  try rw [e0]
  exact ⟨rfl, N0, rfl⟩
theorem own_ef13_m (m : MethodId) (o0 : Addr) (p1 : Int32) : entryFrame m #[(.ref o0), (.int p1)] 5 = mkF m 0 #[.val (.ref o0), .val (.int p1), .unset, .unset, .unset] [] := by first | (simp [entryFrame, mkF, argsToLocals, Value.category]; done) | rfl
theorem d13_39 : decode jdk_42_method_145_code 39 = .ok (.aload_n 0, 1) := by decide +kernel
theorem d13_40 : decode jdk_42_method_145_code 40 = .ok (.getfield 9, 3) := by decide +kernel
theorem d13_43 : decode jdk_42_method_145_code 43 = .ok (.arraylength, 1) := by decide +kernel
theorem d13_44 : decode jdk_42_method_145_code 44 = .ok (.istore_n 2, 1) := by decide +kernel
theorem d13_45 : decode jdk_42_method_145_code 45 = .ok (.iload_n 2, 1) := by decide +kernel
theorem d13_46 : decode jdk_42_method_145_code 46 = .ok (.ifCond .eq 7, 3) := by decide +kernel
theorem d13_49 : decode jdk_42_method_145_code 49 = .ok (.iload_n 1, 1) := by decide +kernel
theorem d13_50 : decode jdk_42_method_145_code 50 = .ok (.ifCond .ne 6, 3) := by decide +kernel
theorem d13_56 : decode jdk_42_method_145_code 56 = .ok (.ldc_w 943, 3) := by decide +kernel
theorem d13_59 : decode jdk_42_method_145_code 59 = .ok (.iload_n 1, 1) := by decide +kernel
theorem d13_60 : decode jdk_42_method_145_code 60 = .ok (.idiv, 1) := by decide +kernel
theorem d13_61 : decode jdk_42_method_145_code 61 = .ok (.iload_n 2, 1) := by decide +kernel
theorem d13_62 : decode jdk_42_method_145_code 62 = .ok (.if_icmp .ge 14, 3) := by decide +kernel
theorem d13_76 : decode jdk_42_method_145_code 76 = .ok (.iload_n 2, 1) := by decide +kernel
theorem d13_77 : decode jdk_42_method_145_code 77 = .ok (.iconst 1, 1) := by decide +kernel
theorem d13_78 : decode jdk_42_method_145_code 78 = .ok (.if_icmp .ne 30, 3) := by decide +kernel
theorem d13_108 : decode jdk_42_method_145_code 108 = .ok (.iload_n 2, 1) := by decide +kernel
theorem d13_109 : decode jdk_42_method_145_code 109 = .ok (.iload_n 1, 1) := by decide +kernel
theorem d13_110 : decode jdk_42_method_145_code 110 = .ok (.imul, 1) := by decide +kernel
theorem d13_111 : decode jdk_42_method_145_code 111 = .ok (.istore_n 3, 1) := by decide +kernel
theorem d13_112 : decode jdk_42_method_145_code 112 = .ok (.iload_n 3, 1) := by decide +kernel
theorem d13_113 : decode jdk_42_method_145_code 113 = .ok (.newarray .byte, 2) := by decide +kernel
theorem d13_115 : decode jdk_42_method_145_code 115 = .ok (.astore 4, 2) := by decide +kernel
theorem d13_117 : decode jdk_42_method_145_code 117 = .ok (.aload_n 0, 1) := by decide +kernel
theorem d13_118 : decode jdk_42_method_145_code 118 = .ok (.getfield 9, 3) := by decide +kernel
theorem d13_121 : decode jdk_42_method_145_code 121 = .ok (.iconst 0, 1) := by decide +kernel
theorem d13_122 : decode jdk_42_method_145_code 122 = .ok (.aload 4, 2) := by decide +kernel
theorem d13_124 : decode jdk_42_method_145_code 124 = .ok (.iconst 0, 1) := by decide +kernel
theorem d13_125 : decode jdk_42_method_145_code 125 = .ok (.iload_n 2, 1) := by decide +kernel
theorem d13_126 : decode jdk_42_method_145_code 126 = .ok (.invokestatic 212, 3) := by decide +kernel
theorem d13_129 : decode jdk_42_method_145_code 129 = .ok (.aload 4, 2) := by decide +kernel
theorem d13_131 : decode jdk_42_method_145_code 131 = .ok (.iconst 0, 1) := by decide +kernel
theorem d13_132 : decode jdk_42_method_145_code 132 = .ok (.iload_n 3, 1) := by decide +kernel
theorem d13_133 : decode jdk_42_method_145_code 133 = .ok (.iload_n 2, 1) := by decide +kernel
theorem d13_134 : decode jdk_42_method_145_code 134 = .ok (.invokestatic 1044, 3) := by decide +kernel
theorem own_pd_17 : parseMethodDescriptor "([BIII)V" = some ⟨[(.array .byte), .int, .int, .int], none⟩ := by decide +kernel
theorem d13_137 : decode jdk_42_method_145_code 137 = .ok (.new 10, 3) := by decide +kernel
theorem d13_140 : decode jdk_42_method_145_code 140 = .ok (.dup, 1) := by decide +kernel
theorem d13_141 : decode jdk_42_method_145_code 141 = .ok (.aload 4, 2) := by decide +kernel
theorem d13_143 : decode jdk_42_method_145_code 143 = .ok (.aload_n 0, 1) := by decide +kernel
theorem d13_144 : decode jdk_42_method_145_code 144 = .ok (.getfield 15, 3) := by decide +kernel
theorem d13_147 : decode jdk_42_method_145_code 147 = .ok (.invokespecial 209, 3) := by decide +kernel
theorem own_pd_18 : parseMethodDescriptor "([BB)V" = some ⟨[(.array .byte), .byte], none⟩ := by decide +kernel
theorem d13_150 : decode jdk_42_method_145_code 150 = .ok (.areturn, 1) := by decide +kernel
def own_Q13_m (Z : State) (o0 : Addr) (p1 : Int32) (sb : Addr) (f : Nat → Value) (jj : Nat) (h0 : Heap) (n0 : Nat) (v : Option Value) (h : Heap) (L : List Loc) : Prop := ∃ r : Addr, v = some (.ref r) ∧ Fr n0 L ∧ h0.size ≤ r ∧ Keep h0 h [] ∧ Exa Z h r "java/lang/String" ∧ Fld Z h r "java/lang/String" "coder" "B" (.int (0 : Int32)) ∧ ∃ (nb : Addr) (ff : Nat → Value), h0.size ≤ nb ∧ r ≠ nb ∧ Fld Z h r "java/lang/String" "value" "[B" (.ref nb) ∧ own_Av Z h nb .byte (3 * jj) ff ∧ ∀ i, i < 3 * jj → ff i = f (i % 3)
set_option maxRecDepth 65536 in
set_option maxHeartbeats 40000000 in
theorem rm13_m (l : Launch) (Z : State) (a0 : Array Value) (hw : ∀ d ∈ tables_1, d.before a0 Z = true) (ws : List Jvm.Cond) (o0 : Addr) (p1 : Int32) (sb : Addr) (f : Nat → Value) (jj : Nat) (h0 : Heap) (n0 : Nat) (Z0 : n0 ≤ h0.size) (QE : Exa Z h0 o0 "java/lang/String") (QC : Fld Z h0 o0 "java/lang/String" "coder" "B" (.int (0 : Int32))) (QV : Fld Z h0 o0 "java/lang/String" "value" "[B" (.ref sb)) (QA : own_Av Z h0 sb .byte 3 f) (Pj : p1.toInt = (jj : Int)) (B1 : 2 ≤ jj) (B2 : jj ≤ 63) :
    MetFree l (⟨"java/lang/String", "repeat", "(I)Ljava/lang/String;"⟩ : MethodName) (head1 (Jvm.Cond.code (⟨"java/lang/String", "repeat", "(I)Ljava/lang/String;"⟩ : MethodName) jdk_42_method_145_code 5 (some (.object "java/lang/String")) :: ws) ({ frames := 2, cells := 2, slots := 204, locals := 33 } : Room)) (fun a U => a = #[(.ref o0), (.int p1)] ∧ Z.Warmed39 U.vm ∧ U.heap = h0) (fun _ _ _ _ _ => True) (fun _ U o U' => ∃ v L, o = .returned v ∧ own_Q13_m Z o0 p1 sb f jj h0 n0 v U'.heap L ∧ FrameEnd U o U' L ({ frames := 2, cells := 2, slots := 204, locals := 33 } : Room).cells ({ frames := 2, cells := 2, slots := 204, locals := 33 } : Room).slots) := by
  refine own_metfree (Q := own_Q13_m Z o0 p1 sb f jj h0 n0) (plainFor_of_name own_pn13) ?_
  intro p e s m below meth c s₁ X0 hx hby hml hret hown hnm hZ e0 G go fin
  have N0 := Fr.nil n0
  refine go _ (s₁.setTop (mkF m 0 #[.val (.ref o0), .val (.int p1), .unset, .unset, .unset] [])) (fun t k => castTop (own_ef13_m m o0 p1) k) ?_
  refine go _ (s₁.setTop (mkF m 1 #[.val (.ref o0), .val (.int p1), .unset, .unset, .unset] [(.int p1)])) (fun t k => XS.iloadN X0.here hx rfl (hb hby d13_0) rfl k) ?_
  have hc1 : ¬ (p1 < (0 : Int32)) := by exact own_nn Pj
  refine go _ (s₁.setTop (mkF m 32 #[.val (.ref o0), .val (.int p1), .unset, .unset, .unset] [])) (fun t k => XS.ifYes X0.here hx rfl (pc0 := 1) (pc' := 32) rfl (hb hby d13_1) rfl ((if0 _ _).trans (flt hc1).2.1) (by decide) (by decide) k) ?_
  refine go _ (s₁.setTop (mkF m 33 #[.val (.ref o0), .val (.int p1), .unset, .unset, .unset] [(.int p1)])) (fun t k => XS.iloadN X0.here hx rfl (hb hby d13_32) rfl k) ?_
  refine go _ (s₁.setTop (mkF m 34 #[.val (.ref o0), .val (.int p1), .unset, .unset, .unset] [(.int (1 : Int32)), (.int p1)])) (fun t k => XS.iconst X0.here hx rfl (hb hby d13_33) k) ?_
  have hc34 : ¬ (p1 = (1 : Int32)) := by rw [own_eqn Pj (n := 1) (by decide)]; omega
  refine go _ (s₁.setTop (mkF m 39 #[.val (.ref o0), .val (.int p1), .unset, .unset, .unset] [])) (fun t k => XS.icmpYes X0.here hx rfl (pc0 := 34) (pc' := 39) rfl (hb hby d13_34) rfl (feq hc34).2 (by decide) (by decide) k) ?_
  refine go _ (s₁.setTop (mkF m 40 #[.val (.ref o0), .val (.int p1), .unset, .unset, .unset] [(.ref o0)])) (fun t k => XS.aloadN X0.here hx rfl (hb hby d13_39) rfl rfl k) ?_
  obtain ⟨T1, X1, e1, st1⟩ := getF X0 hx hZ hown (host := "") (Or.inl (hw _ (List.mem_of_getElem? (i := 47) rfl))) Via.refl e0 QV (g := (mkF m 40 #[.val (.ref o0), .val (.int p1), .unset, .unset, .unset] [(.ref o0)])) rfl rfl (hb hby d13_40)
  refine go _ (T1.setTop (mkF m 43 #[.val (.ref o0), .val (.int p1), .unset, .unset, .unset] [(.ref sb)])) st1 ?_
  refine go _ (T1.setTop (mkF m 44 #[.val (.ref o0), .val (.int p1), .unset, .unset, .unset] [(.int (3 : Int32))])) (fun t k => own_len X1 hx hZ e1 QA (by decide) (g := (mkF m 43 #[.val (.ref o0), .val (.int p1), .unset, .unset, .unset] [(.ref sb)])) rfl rfl (hb hby d13_43) _ k) ?_
  refine go _ (T1.setTop (mkF m 45 #[.val (.ref o0), .val (.int p1), .val (.int (3 : Int32)), .unset, .unset] [])) (fun t k => XS.istoreN X1.here hx rfl (hb hby d13_44) rfl (l' := #[.val (.ref o0), .val (.int p1), .val (.int (3 : Int32)), .unset, .unset]) rfl k) ?_
  refine go _ (T1.setTop (mkF m 46 #[.val (.ref o0), .val (.int p1), .val (.int (3 : Int32)), .unset, .unset] [(.int (3 : Int32))])) (fun t k => XS.iloadN X1.here hx rfl (hb hby d13_45) rfl k) ?_
  have hc46 : ¬ ((3 : Int32) = (0 : Int32)) := by decide
  refine go _ (T1.setTop (mkF m 49 #[.val (.ref o0), .val (.int p1), .val (.int (3 : Int32)), .unset, .unset] [])) (fun t k => XS.ifNo X1.here hx rfl (hb hby d13_46) rfl ((if0 _ _).trans (feq hc46).1) k) ?_
  refine go _ (T1.setTop (mkF m 50 #[.val (.ref o0), .val (.int p1), .val (.int (3 : Int32)), .unset, .unset] [(.int p1)])) (fun t k => XS.iloadN X1.here hx rfl (hb hby d13_49) rfl k) ?_
  have hc50 : ¬ (p1 = (0 : Int32)) := by rw [own_eqn Pj (n := 0) (by decide)]; omega
  refine go _ (T1.setTop (mkF m 56 #[.val (.ref o0), .val (.int p1), .val (.int (3 : Int32)), .unset, .unset] [])) (fun t k => XS.ifYes X1.here hx rfl (pc0 := 50) (pc' := 56) rfl (hb hby d13_50) rfl ((if0 _ _).trans (feq hc50).2) (by decide) (by decide) k) ?_
  refine go _ (T1.setTop (mkF m 59 #[.val (.ref o0), .val (.int p1), .val (.int (3 : Int32)), .unset, .unset] [(.int (2147483647 : Int32))])) (fun t k => X1.ldcwInt hx hown (mvT hZ (hw _ (List.mem_of_getElem? (i := 164) rfl))) (g := (mkF m 56 #[.val (.ref o0), .val (.int p1), .val (.int (3 : Int32)), .unset, .unset] [])) rfl (hb hby d13_56) _ k) ?_
  refine go _ (T1.setTop (mkF m 60 #[.val (.ref o0), .val (.int p1), .val (.int (3 : Int32)), .unset, .unset] [(.int p1), (.int (2147483647 : Int32))])) (fun t k => XS.iloadN X1.here hx rfl (hb hby d13_59) rfl k) ?_
  refine go _ (T1.setTop (mkF m 61 #[.val (.ref o0), .val (.int p1), .val (.int (3 : Int32)), .unset, .unset] [(.int ((2147483647 : Int32) / p1))])) (fun t k => XS.idiv X1.here hx rfl (hb hby d13_60) rfl (show p1 ≠ 0 from (by intro q; have := (own_eqn Pj (n := 0) (by decide)).mp q; omega)) k) ?_
  refine go _ (T1.setTop (mkF m 62 #[.val (.ref o0), .val (.int p1), .val (.int (3 : Int32)), .unset, .unset] [(.int (3 : Int32)), (.int ((2147483647 : Int32) / p1))])) (fun t k => XS.iloadN X1.here hx rfl (hb hby d13_61) rfl k) ?_
  have hc62 : ¬ (((2147483647 : Int32) / p1) < (3 : Int32)) := by exact own_dmax Pj (by omega) (by omega)
  refine go _ (T1.setTop (mkF m 76 #[.val (.ref o0), .val (.int p1), .val (.int (3 : Int32)), .unset, .unset] [])) (fun t k => XS.icmpYes X1.here hx rfl (pc0 := 62) (pc' := 76) rfl (hb hby d13_62) rfl (flt hc62).2.1 (by decide) (by decide) k) ?_
  refine go _ (T1.setTop (mkF m 77 #[.val (.ref o0), .val (.int p1), .val (.int (3 : Int32)), .unset, .unset] [(.int (3 : Int32))])) (fun t k => XS.iloadN X1.here hx rfl (hb hby d13_76) rfl k) ?_
  refine go _ (T1.setTop (mkF m 78 #[.val (.ref o0), .val (.int p1), .val (.int (3 : Int32)), .unset, .unset] [(.int (1 : Int32)), (.int (3 : Int32))])) (fun t k => XS.iconst X1.here hx rfl (hb hby d13_77) k) ?_
  have hc78 : ¬ ((3 : Int32) = (1 : Int32)) := by decide
  refine go _ (T1.setTop (mkF m 108 #[.val (.ref o0), .val (.int p1), .val (.int (3 : Int32)), .unset, .unset] [])) (fun t k => XS.icmpYes X1.here hx rfl (pc0 := 78) (pc' := 108) rfl (hb hby d13_78) rfl (feq hc78).2 (by decide) (by decide) k) ?_
  refine go _ (T1.setTop (mkF m 109 #[.val (.ref o0), .val (.int p1), .val (.int (3 : Int32)), .unset, .unset] [(.int (3 : Int32))])) (fun t k => XS.iloadN X1.here hx rfl (hb hby d13_108) rfl k) ?_
  refine go _ (T1.setTop (mkF m 110 #[.val (.ref o0), .val (.int p1), .val (.int (3 : Int32)), .unset, .unset] [(.int p1), (.int (3 : Int32))])) (fun t k => XS.iloadN X1.here hx rfl (hb hby d13_109) rfl k) ?_
  refine go _ (T1.setTop (mkF m 111 #[.val (.ref o0), .val (.int p1), .val (.int (3 : Int32)), .unset, .unset] [(.int ((3 : Int32) * p1))])) (fun t k => XS.imul X1.here hx rfl (hb hby d13_110) rfl k) ?_
  refine go _ (T1.setTop (mkF m 112 #[.val (.ref o0), .val (.int p1), .val (.int (3 : Int32)), .val (.int ((3 : Int32) * p1)), .unset] [])) (fun t k => XS.istoreN X1.here hx rfl (hb hby d13_111) rfl (l' := #[.val (.ref o0), .val (.int p1), .val (.int (3 : Int32)), .val (.int ((3 : Int32) * p1)), .unset]) rfl k) ?_
  refine go _ (T1.setTop (mkF m 113 #[.val (.ref o0), .val (.int p1), .val (.int (3 : Int32)), .val (.int ((3 : Int32) * p1)), .unset] [(.int ((3 : Int32) * p1))])) (fun t k => XS.iloadN X1.here hx rfl (hb hby d13_112) rfl k) ?_
  obtain ⟨T2, h2, kk2, X2, e2, E2, Ar2, Ax2, st2⟩ := newPE X1 hx hZ (hw _ (List.mem_of_getElem? (i := 21) rfl)) e1 (g := (mkF m 113 #[.val (.ref o0), .val (.int p1), .val (.int (3 : Int32)), .val (.int ((3 : Int32) * p1)), .unset] [(.int ((3 : Int32) * p1))])) rfl (hb hby d13_113) rfl (own_nn (own_mul3 Pj (by omega))) (cap := 200) (by rw [own_nat (own_mul3 Pj (by omega))]; omega) (by decide) (by decide) (by decide) (ad := "[B") (by first | rfl | decide)
  obtain ⟨b2, gb2⟩ : ∃ z, z = h0.size := ⟨_, rfl⟩
  rw [← gb2] at Ar2 Ax2 st2
  have ne3_o0_b2 : o0 ≠ b2 := Nat.ne_of_lt (Nat.lt_of_lt_of_le QE.lt (Nat.le_of_eq gb2.symm))
  have ne4_sb_b2 : sb ≠ b2 := Nat.ne_of_lt (Nat.lt_of_lt_of_le QA.lt (Nat.le_of_eq gb2.symm))
  have g_b2 : n0 ≤ b2 := Nat.le_trans Z0 (Nat.le_of_eq gb2.symm)
  have sz_b2 : h0.size ≤ b2 := (Nat.le_of_eq gb2.symm)
  have Av2 : own_Av Z h2 b2 .byte (3 * jj) (fun _ => (.int 0)) := own_Av.new Ar2 (own_nn (own_mul3 Pj (by omega))) (own_nat (own_mul3 Pj (by omega)))
  refine go _ (T2.setTop (mkF m 115 #[.val (.ref o0), .val (.int p1), .val (.int (3 : Int32)), .val (.int ((3 : Int32) * p1)), .unset] [(.ref b2)])) st2 ?_
  refine go _ (T2.setTop (mkF m 117 #[.val (.ref o0), .val (.int p1), .val (.int (3 : Int32)), .val (.int ((3 : Int32) * p1)), .val (.ref b2)] [])) (fun t k => XS.astore X2.here hx rfl (hb hby d13_115) rfl rfl (l' := #[.val (.ref o0), .val (.int p1), .val (.int (3 : Int32)), .val (.int ((3 : Int32) * p1)), .val (.ref b2)]) rfl k) ?_
  refine go _ (T2.setTop (mkF m 118 #[.val (.ref o0), .val (.int p1), .val (.int (3 : Int32)), .val (.int ((3 : Int32) * p1)), .val (.ref b2)] [(.ref o0)])) (fun t k => XS.aloadN X2.here hx rfl (hb hby d13_117) rfl rfl k) ?_
  have F5_value_o0 : Fld Z h2 o0 "java/lang/String" "value" "[B" (.ref sb) := (QV.ext E2)
  obtain ⟨T6, X6, e6, st6⟩ := getF X2 hx hZ hown (host := "") (Or.inl (hw _ (List.mem_of_getElem? (i := 47) rfl))) Via.refl e2 F5_value_o0 (g := (mkF m 118 #[.val (.ref o0), .val (.int p1), .val (.int (3 : Int32)), .val (.int ((3 : Int32) * p1)), .val (.ref b2)] [(.ref o0)])) rfl rfl (hb hby d13_118)
  refine go _ (T6.setTop (mkF m 121 #[.val (.ref o0), .val (.int p1), .val (.int (3 : Int32)), .val (.int ((3 : Int32) * p1)), .val (.ref b2)] [(.ref sb)])) st6 ?_
  refine go _ (T6.setTop (mkF m 122 #[.val (.ref o0), .val (.int p1), .val (.int (3 : Int32)), .val (.int ((3 : Int32) * p1)), .val (.ref b2)] [(.int (0 : Int32)), (.ref sb)])) (fun t k => XS.iconst X6.here hx rfl (hb hby d13_121) k) ?_
  refine go _ (T6.setTop (mkF m 124 #[.val (.ref o0), .val (.int p1), .val (.int (3 : Int32)), .val (.int ((3 : Int32) * p1)), .val (.ref b2)] [(.ref b2), (.int (0 : Int32)), (.ref sb)])) (fun t k => XS.aload X6.here hx rfl (hb hby d13_122) rfl rfl k) ?_
  refine go _ (T6.setTop (mkF m 125 #[.val (.ref o0), .val (.int p1), .val (.int (3 : Int32)), .val (.int ((3 : Int32) * p1)), .val (.ref b2)] [(.int (0 : Int32)), (.ref b2), (.int (0 : Int32)), (.ref sb)])) (fun t k => XS.iconst X6.here hx rfl (hb hby d13_124) k) ?_
  refine go _ (T6.setTop (mkF m 126 #[.val (.ref o0), .val (.int p1), .val (.int (3 : Int32)), .val (.int ((3 : Int32) * p1)), .val (.ref b2)] [(.int (3 : Int32)), (.int (0 : Int32)), (.ref b2), (.int (0 : Int32)), (.ref sb)])) (fun t k => XS.iloadN X6.here hx rfl (hb hby d13_125) rfl k) ?_
  have A8_sb : own_Av Z h2 sb .byte 3 f := (QA.ext E2)
  obtain ⟨T7, h7, L7, X7, e7, N7, K7, Av7, st7⟩ := own_cpy X6 hx hZ hown (hw _ (List.mem_of_getElem? (i := 78) rfl)) (hw _ (List.mem_of_getElem? (i := 81) rfl)) (hw _ (List.mem_of_getElem? (i := 79) rfl)) (hw _ (List.mem_of_getElem? (i := 80) rfl)) e6 A8_sb Av2 rfl (i := 0) (j := 0) (k := 3) (by decide) (by decide) (by decide) (by omega) (by omega) N0 g_b2 (fr := (mkF m 126 #[.val (.ref o0), .val (.int p1), .val (.int (3 : Int32)), .val (.int ((3 : Int32) * p1)), .val (.ref b2)] [(.int (3 : Int32)), (.int (0 : Int32)), (.ref b2), (.int (0 : Int32)), (.ref sb)])) rfl (by rw [hml]; rfl) rfl (hb hby d13_126) (by decide) (W := 0) (by show 2 * 0 + _ ≤ _; exact Nat.le_of_eq rfl) (by decide)
  refine go _ (T7.setTop (mkF m 129 #[.val (.ref o0), .val (.int p1), .val (.int (3 : Int32)), .val (.int ((3 : Int32) * p1)), .val (.ref b2)] [])) st7 ?_
  refine go _ (T7.setTop (mkF m 131 #[.val (.ref o0), .val (.int p1), .val (.int (3 : Int32)), .val (.int ((3 : Int32) * p1)), .val (.ref b2)] [(.ref b2)])) (fun t k => XS.aload X7.here hx rfl (hb hby d13_129) rfl rfl k) ?_
  refine go _ (T7.setTop (mkF m 132 #[.val (.ref o0), .val (.int p1), .val (.int (3 : Int32)), .val (.int ((3 : Int32) * p1)), .val (.ref b2)] [(.int (0 : Int32)), (.ref b2)])) (fun t k => XS.iconst X7.here hx rfl (hb hby d13_131) k) ?_
  refine go _ (T7.setTop (mkF m 133 #[.val (.ref o0), .val (.int p1), .val (.int (3 : Int32)), .val (.int ((3 : Int32) * p1)), .val (.ref b2)] [(.int ((3 : Int32) * p1)), (.int (0 : Int32)), (.ref b2)])) (fun t k => XS.iloadN X7.here hx rfl (hb hby d13_132) rfl k) ?_
  refine go _ (T7.setTop (mkF m 134 #[.val (.ref o0), .val (.int p1), .val (.int (3 : Int32)), .val (.int ((3 : Int32) * p1)), .val (.ref b2)] [(.int (3 : Int32)), (.int ((3 : Int32) * p1)), (.int (0 : Int32)), (.ref b2)])) (fun t k => XS.iloadN X7.here hx rfl (hb hby d13_133) rfl k) ?_
  have Z9z : n0 ≤ h7.size := (Nat.le_trans (Nat.le_trans Z0 E2.1) K7.1)
  obtain ⟨_, _, ⟨T10, L10, k10, n10⟩, -, X10, ⟨Lc10, hQ10, l10, y10, z10⟩, st10⟩ := Jvm.LawKit.callS X7 hx (y := (⟨"java/lang/String", "repeatCopyRest", "([BIII)V"⟩ : MethodName)) hown (mvT hZ (hw _ (List.mem_of_getElem? (i := 165) rfl))) (mvT hZ (hw _ (List.mem_of_getElem? (i := 166) rfl))) (mvT hZ (hw _ (List.mem_of_getElem? (i := 20) rfl))) (mvT hZ (hw _ (List.mem_of_getElem? (i := 167) rfl))) (by decide) (backOf (W := 0) (rm31 l Z a0 hw [] b2 (0 : Int32) ((3 : Int32) * p1) (3 : Int32) jj (fun q => if 0 ≤ q ∧ q < 0 + 3 then f (0 + (q - 0)) else (fun _ => (.int 0)) q) f h7 n0 Z9z Av7 rfl (own_mul3 Pj (by omega)) (by decide) (by omega) (by omega) (fun i hi => by show (if 0 ≤ i ∧ i < 0 + 3 then f (0 + (i - 0)) else _) = _; rw [if_pos (by omega), show 0 + (i - 0) = i % 3 by omega]) g_b2) hZ (hw _ (List.mem_of_getElem? (i := 167) rfl)) (hw _ (List.mem_of_getElem? (i := 20) rfl)) (by decide) (by decide)) (g := (mkF m 134 #[.val (.ref o0), .val (.int p1), .val (.int (3 : Int32)), .val (.int ((3 : Int32) * p1)), .val (.ref b2)] [(.int (3 : Int32)), (.int ((3 : Int32) * p1)), (.int (0 : Int32)), (.ref b2)])) rfl (by rw [hml]; rfl) (argsL := [(.ref b2), (.int (0 : Int32)), (.int ((3 : Int32) * p1)), (.int (3 : Int32))]) (rest := []) (lenOf own_pd_17 rfl) rfl (by show 2 * 0 + _ ≤ _; exact Nat.le_of_eq rfl) (hb hby d13_134) (fun _ _ => ⟨rfl, e7, (by decide : 1 + 0 ≤ _), (by decide : 200 + 0 ≤ _)⟩)
  dsimp only [Pt.U, Pt.locs, Pt.cells, Pt.slots] at X10 l10 y10 z10 st10 hQ10
  subst l10 y10 z10
  obtain ⟨rfl, Nq10, K10, fr10, Ar10, ag10⟩ := hQ10
  have N10 := Fr.app N7 Nq10
  refine go _ (T10.setTop (mkF m 137 #[.val (.ref o0), .val (.int p1), .val (.int (3 : Int32)), .val (.int ((3 : Int32) * p1)), .val (.ref b2)] [])) st10 ?_
  have Z12z : n0 ≤ T10.heap.size := (Nat.le_trans Z9z K10.1)
  obtain ⟨T11, h11, X11, e11, E11, Ax11, D11, -, st11⟩ := newO X10 hx hZ hown (hw _ (List.mem_of_getElem? (i := 168) rfl)) (hw _ (List.mem_of_getElem? (i := 27) rfl)) (hw _ (List.mem_of_getElem? (i := 20) rfl)) rfl (g := (mkF m 137 #[.val (.ref o0), .val (.int p1), .val (.int (3 : Int32)), .val (.int ((3 : Int32) * p1)), .val (.ref b2)] [])) rfl (hb hby d13_137) (by decide) (by decide)
  obtain ⟨b11, gb11⟩ : ∃ z, z = T10.heap.size := ⟨_, rfl⟩
  rw [← gb11] at Ax11 D11 st11
  have E13_b2 : Exa Z T10.heap b2 "[B" := ((Ax2.keep K7).keep K10)
  have ne14_b2_b11 : b2 ≠ b11 := Nat.ne_of_lt (Nat.lt_of_lt_of_le E13_b2.lt (Nat.le_of_eq gb11.symm))
  have E15_o0 : Exa Z T10.heap o0 "java/lang/String" := (((QE.ext E2).keep K7).keep K10)
  have ne16_o0_b11 : o0 ≠ b11 := Nat.ne_of_lt (Nat.lt_of_lt_of_le E15_o0.lt (Nat.le_of_eq gb11.symm))
  have A17_sb : own_Av Z T10.heap sb .byte 3 f := ((A8_sb.keep K7 (ninS ne4_sb_b2 nin0)).keep K10 (ninS ne4_sb_b2 nin0))
  have ne18_sb_b11 : sb ≠ b11 := Nat.ne_of_lt (Nat.lt_of_lt_of_le A17_sb.lt (Nat.le_of_eq gb11.symm))
  have g_b11 : n0 ≤ b11 := Nat.le_trans Z12z (Nat.le_of_eq gb11.symm)
  have S19s : h0.size ≤ T10.heap.size ∧ True := ⟨(Nat.le_trans (Nat.le_trans E2.1 K7.1) K10.1), trivial⟩
  have sz_b11 : h0.size ≤ b11 := (Nat.le_trans S19s.1 (Nat.le_of_eq gb11.symm))
  have F_value_b11 : Fld Z h11 b11 "java/lang/String" "value" "[B" .null := D11 (Or.inr (hw _ (List.mem_of_getElem? (i := 28) rfl))) (ty := (.array .byte)) (by decide)
  have F_coder_b11 : Fld Z h11 b11 "java/lang/String" "coder" "B" (.int (0 : Int32)) := D11 (Or.inr (hw _ (List.mem_of_getElem? (i := 29) rfl))) (ty := .byte) (by decide)
  refine go _ (T11.setTop (mkF m 140 #[.val (.ref o0), .val (.int p1), .val (.int (3 : Int32)), .val (.int ((3 : Int32) * p1)), .val (.ref b2)] [(.ref b11)])) st11 ?_
  refine go _ (T11.setTop (mkF m 141 #[.val (.ref o0), .val (.int p1), .val (.int (3 : Int32)), .val (.int ((3 : Int32) * p1)), .val (.ref b2)] [(.ref b11), (.ref b11)])) (fun t k => XS.dup X11.here hx rfl (hb hby d13_140) rfl rfl k) ?_
  refine go _ (T11.setTop (mkF m 143 #[.val (.ref o0), .val (.int p1), .val (.int (3 : Int32)), .val (.int ((3 : Int32) * p1)), .val (.ref b2)] [(.ref b2), (.ref b11), (.ref b11)])) (fun t k => XS.aload X11.here hx rfl (hb hby d13_141) rfl rfl k) ?_
  refine go _ (T11.setTop (mkF m 144 #[.val (.ref o0), .val (.int p1), .val (.int (3 : Int32)), .val (.int ((3 : Int32) * p1)), .val (.ref b2)] [(.ref o0), (.ref b2), (.ref b11), (.ref b11)])) (fun t k => XS.aloadN X11.here hx rfl (hb hby d13_143) rfl rfl k) ?_
  have F20_coder_o0 : Fld Z h11 o0 "java/lang/String" "coder" "B" (.int (0 : Int32)) := ((((QC.ext E2).keep K7 (ninS ne3_o0_b2 nin0)).keep K10 (ninS ne3_o0_b2 nin0)).ext E11)
  obtain ⟨T21, X21, e21, st21⟩ := getF X11 hx hZ hown (host := "") (Or.inl (hw _ (List.mem_of_getElem? (i := 54) rfl))) Via.refl e11 F20_coder_o0 (g := (mkF m 144 #[.val (.ref o0), .val (.int p1), .val (.int (3 : Int32)), .val (.int ((3 : Int32) * p1)), .val (.ref b2)] [(.ref o0), (.ref b2), (.ref b11), (.ref b11)])) rfl rfl (hb hby d13_144)
  refine go _ (T21.setTop (mkF m 147 #[.val (.ref o0), .val (.int p1), .val (.int (3 : Int32)), .val (.int ((3 : Int32) * p1)), .val (.ref b2)] [(.int (0 : Int32)), (.ref b2), (.ref b11), (.ref b11)])) st21 ?_
  have Z22z : n0 ≤ h11.size := (Nat.le_trans Z12z E11.1)
  obtain ⟨_, _, ⟨T23, L23, k23, n23⟩, -, X23, ⟨Lc23, hQ23, l23, y23, z23⟩, st23⟩ := X21.specialBack hx (y := (⟨"java/lang/String", "<init>", "([BB)V"⟩ : MethodName)) rfl hown (mvT hZ (hw _ (List.mem_of_getElem? (i := 169) rfl))) (mvT hZ (hw _ (List.mem_of_getElem? (i := 170) rfl))) (mvT hZ (hw _ (List.mem_of_getElem? (i := 171) rfl))) (by decide) (backOf (W := 1) (rm32 l Z a0 hw [] b11 b2 (0 : Int32) h11 n0 Z22z Ax11 F_value_b11 F_coder_b11 g_b11 rfl) hZ (hw _ (List.mem_of_getElem? (i := 171) rfl)) (hw _ (List.mem_of_getElem? (i := 20) rfl)) (by decide) (by decide)) (g := (mkF m 147 #[.val (.ref o0), .val (.int p1), .val (.int (3 : Int32)), .val (.int ((3 : Int32) * p1)), .val (.ref b2)] [(.int (0 : Int32)), (.ref b2), (.ref b11), (.ref b11)])) rfl (by rw [hml]; rfl) (Steps.refl _) (a := b11) (argsL := [(.ref b2), (.int (0 : Int32))]) (rest := [(.ref b11)]) (lenOf own_pd_18 rfl) rfl (by show 2 * 0 + _ ≤ _; exact Nat.le_of_eq rfl) (hb hby d13_147) (fun _ _ => ⟨rfl, e21, (by decide : 2 + 0 ≤ _), (by decide : 204 + 0 ≤ _)⟩)
  dsimp only [Pt.U, Pt.locs, Pt.cells, Pt.slots] at X23 l23 y23 z23 st23 hQ23
  subst l23 y23 z23
  obtain ⟨rfl, Nq23, K23, Ex23, Fc23, Fv23⟩ := hQ23
  have N23 := Fr.app N10 Nq23
  refine go _ (T23.setTop (mkF m 150 #[.val (.ref o0), .val (.int p1), .val (.int (3 : Int32)), .val (.int ((3 : Int32) * p1)), .val (.ref b2)] [(.ref b11)])) (fun t k => st23.trans k) ?_
  have A24_b2 : own_Av Z T23.heap b2 .byte (3 * jj) fr10 := ((Ar10.ext E11).keep K23 (ninS ne14_b2_b11 nin0))
  refine fin (some (.ref b11)) (mkF m 150 #[.val (.ref o0), .val (.int p1), .val (.int (3 : Int32)), .val (.int ((3 : Int32) * p1)), .val (.ref b2)] [(.ref b11)]) X23 (fun h => by cases h) (fun fs hr => retOut X23 hx (t := (.object "java/lang/String")) hret rfl (Or.inr (Or.inr (Or.inr (Or.inr ⟨rfl, rfl, rfl⟩)))) (hb hby d13_150) hr) ?_ (by decide) (by decide)
  exact ⟨b11, rfl, N23, sz_b11, ((((((Keep.refl h0 []).ext E2).trans K7 (allS (Or.inr sz_b2) all0)).trans K10 (allS (Or.inr sz_b2) all0)).ext E11).trans K23 (allS (Or.inr sz_b11) all0)), Ex23, Fc23, b2, _, sz_b2, (Ne.symm ne14_b2_b11), Fv23, A24_b2, ag10⟩
theorem own_ef13_0 (m : MethodId) (o0 : Addr) (p1 : Int32) : entryFrame m #[(.ref o0), (.int p1)] 5 = mkF m 0 #[.val (.ref o0), .val (.int p1), .unset, .unset, .unset] [] := by first | (simp [entryFrame, mkF, argsToLocals, Value.category]; done) | rfl
theorem d13_53 : decode jdk_42_method_145_code 53 = .ok (.ldc 7, 2) := by decide +kernel
theorem d13_55 : decode jdk_42_method_145_code 55 = .ok (.areturn, 1) := by decide +kernel
def own_Q13_0 (Z : State) (o0 : Addr) (p1 : Int32) (sb : Addr) (f : Nat → Value) (h0 : Heap) (n0 : Nat) (v : Option Value) (h : Heap) (L : List Loc) : Prop := ∃ r : Addr, v = some (.ref r) ∧ Fr n0 L ∧ Ext h0 h ∧ Exa Z h r "java/lang/String" ∧ Fld Z h r "java/lang/String" "coder" "B" (.int (0 : Int32)) ∧ ∃ nb : Addr, Fld Z h r "java/lang/String" "value" "[B" (.ref nb) ∧ own_Av Z h nb .byte 0 (fun i => ([] : List Value).getD i (.int 0))
set_option maxRecDepth 65536 in
set_option maxHeartbeats 40000000 in
theorem rm13_0 (l : Launch) (Z : State) (a0 : Array Value) (hw : ∀ d ∈ tables_1, d.before a0 Z = true) (ws : List Jvm.Cond) (o0 : Addr) (p1 : Int32) (sb : Addr) (f : Nat → Value) (h0 : Heap) (n0 : Nat) (Z0 : n0 ≤ h0.size) (QE : Exa Z h0 o0 "java/lang/String") (QC : Fld Z h0 o0 "java/lang/String" "coder" "B" (.int (0 : Int32))) (QV : Fld Z h0 o0 "java/lang/String" "value" "[B" (.ref sb)) (QA : own_Av Z h0 sb .byte 3 f) (Pz : p1 = (0 : Int32)) :
    MetFree l (⟨"java/lang/String", "repeat", "(I)Ljava/lang/String;"⟩ : MethodName) (head1 (Jvm.Cond.code (⟨"java/lang/String", "repeat", "(I)Ljava/lang/String;"⟩ : MethodName) jdk_42_method_145_code 5 (some (.object "java/lang/String")) :: ws) ({ frames := 0, cells := 2, slots := 4, locals := 0 } : Room)) (fun a U => a = #[(.ref o0), (.int p1)] ∧ Z.Warmed39 U.vm ∧ U.heap = h0 ∧ CHv Z consts_1 U.vm h0) (fun _ _ _ _ _ => True) (fun _ U o U' => ∃ v L, o = .returned v ∧ own_Q13_0 Z o0 p1 sb f h0 n0 v U'.heap L ∧ ReturnedEndW U o U' L ({ frames := 0, cells := 2, slots := 4, locals := 0 } : Room).cells ({ frames := 0, cells := 2, slots := 4, locals := 0 } : Room).slots) := by
  refine own_metfreeH (EL := consts_1) (Q := own_Q13_0 Z o0 p1 sb f h0 n0) (plainFor_of_name own_pn13) ?_
  intro p e s m below meth c s₁ X0 hx hby hml hret hown hnm hZ e0 hC0 G go fin
  have N0 := Fr.nil n0
  have hS : s.Since s.vm 0 := (State.WarmedH.refl s).since 0
  have hk : 0 ≤ h0.size := Nat.zero_le _
  refine go _ (s₁.setTop (mkF m 0 #[.val (.ref o0), .val (.int p1), .unset, .unset, .unset] [])) (fun t k => castTop (own_ef13_0 m o0 p1) k) ?_
  rw [Pz]
  refine go _ (s₁.setTop (mkF m 1 #[.val (.ref o0), .val (.int (0 : Int32)), .unset, .unset, .unset] [(.int (0 : Int32))])) (fun t k => XS.iloadN X0.here hx rfl (hb hby d13_0) rfl k) ?_
  have hc1 : ¬ ((0 : Int32) < (0 : Int32)) := by decide
  refine go _ (s₁.setTop (mkF m 32 #[.val (.ref o0), .val (.int (0 : Int32)), .unset, .unset, .unset] [])) (fun t k => XS.ifYes X0.here hx rfl (pc0 := 1) (pc' := 32) rfl (hb hby d13_1) rfl ((if0 _ _).trans (flt hc1).2.1) (by decide) (by decide) k) ?_
  refine go _ (s₁.setTop (mkF m 33 #[.val (.ref o0), .val (.int (0 : Int32)), .unset, .unset, .unset] [(.int (0 : Int32))])) (fun t k => XS.iloadN X0.here hx rfl (hb hby d13_32) rfl k) ?_
  refine go _ (s₁.setTop (mkF m 34 #[.val (.ref o0), .val (.int (0 : Int32)), .unset, .unset, .unset] [(.int (1 : Int32)), (.int (0 : Int32))])) (fun t k => XS.iconst X0.here hx rfl (hb hby d13_33) k) ?_
  have hc34 : ¬ ((0 : Int32) = (1 : Int32)) := by decide
  refine go _ (s₁.setTop (mkF m 39 #[.val (.ref o0), .val (.int (0 : Int32)), .unset, .unset, .unset] [])) (fun t k => XS.icmpYes X0.here hx rfl (pc0 := 34) (pc' := 39) rfl (hb hby d13_34) rfl (feq hc34).2 (by decide) (by decide) k) ?_
  refine go _ (s₁.setTop (mkF m 40 #[.val (.ref o0), .val (.int (0 : Int32)), .unset, .unset, .unset] [(.ref o0)])) (fun t k => XS.aloadN X0.here hx rfl (hb hby d13_39) rfl rfl k) ?_
  obtain ⟨T1, X1, e1, st1⟩ := getF X0 hx hZ hown (host := "") (Or.inl (hw _ (List.mem_of_getElem? (i := 47) rfl))) Via.refl e0 QV (g := (mkF m 40 #[.val (.ref o0), .val (.int (0 : Int32)), .unset, .unset, .unset] [(.ref o0)])) rfl rfl (hb hby d13_40)
  refine go _ (T1.setTop (mkF m 43 #[.val (.ref o0), .val (.int (0 : Int32)), .unset, .unset, .unset] [(.ref sb)])) st1 ?_
  refine go _ (T1.setTop (mkF m 44 #[.val (.ref o0), .val (.int (0 : Int32)), .unset, .unset, .unset] [(.int (3 : Int32))])) (fun t k => own_len X1 hx hZ e1 QA (by decide) (g := (mkF m 43 #[.val (.ref o0), .val (.int (0 : Int32)), .unset, .unset, .unset] [(.ref sb)])) rfl rfl (hb hby d13_43) _ k) ?_
  refine go _ (T1.setTop (mkF m 45 #[.val (.ref o0), .val (.int (0 : Int32)), .val (.int (3 : Int32)), .unset, .unset] [])) (fun t k => XS.istoreN X1.here hx rfl (hb hby d13_44) rfl (l' := #[.val (.ref o0), .val (.int (0 : Int32)), .val (.int (3 : Int32)), .unset, .unset]) rfl k) ?_
  refine go _ (T1.setTop (mkF m 46 #[.val (.ref o0), .val (.int (0 : Int32)), .val (.int (3 : Int32)), .unset, .unset] [(.int (3 : Int32))])) (fun t k => XS.iloadN X1.here hx rfl (hb hby d13_45) rfl k) ?_
  have hc46 : ¬ ((3 : Int32) = (0 : Int32)) := by decide
  refine go _ (T1.setTop (mkF m 49 #[.val (.ref o0), .val (.int (0 : Int32)), .val (.int (3 : Int32)), .unset, .unset] [])) (fun t k => XS.ifNo X1.here hx rfl (hb hby d13_46) rfl ((if0 _ _).trans (feq hc46).1) k) ?_
  refine go _ (T1.setTop (mkF m 50 #[.val (.ref o0), .val (.int (0 : Int32)), .val (.int (3 : Int32)), .unset, .unset] [(.int (0 : Int32))])) (fun t k => XS.iloadN X1.here hx rfl (hb hby d13_49) rfl k) ?_
  have hc50 : (0 : Int32) = (0 : Int32) := by decide
  refine go _ (T1.setTop (mkF m 53 #[.val (.ref o0), .val (.int (0 : Int32)), .val (.int (3 : Int32)), .unset, .unset] [])) (fun t k => XS.ifNo X1.here hx rfl (hb hby d13_50) rfl ((if0 _ _).trans (teq hc50).2) k) ?_
  obtain ⟨sa2, T2, h2, k2, sd2, kc2, X2, e2, E2, hS, hk, hZ, hown, Ea2, Fc2, Fv2, Ar2, la2, lb2, hC2, -, hSf2, st2⟩ := ldcCH (s := s) (vm0 := s.vm) X1 hx hZ hown (hw _ (List.mem_of_getElem? (i := 88) rfl)) (fun a ha => hw a (own_strs a ha)) e1 hS hk (own_EL hw) (List.mem_of_getElem? (i := 2) rfl) hC0 (vs := ([] : List Value)) (z := (0 : Int32)) ⟨by decide, by first | rfl | decide⟩ (by decide) (by decide) (g := (mkF m 53 #[.val (.ref o0), .val (.int (0 : Int32)), .val (.int (3 : Int32)), .unset, .unset] [])) rfl (hb hby d13_53) (n := 0) (by decide) (by decide) (by decide) (by decide)
  have Al2 : own_Av Z h2 sd2 .byte 0 (fun i => ([] : List Value).getD i (.int 0)) := own_of_arvL Ar2 (by decide)
  refine go _ (T2.setTop (mkF m 55 #[.val (.ref o0), .val (.int (0 : Int32)), .val (.int (3 : Int32)), .unset, .unset] [(.ref sa2)])) st2 ?_
  refine fin (some (.ref sa2)) (mkF m 55 #[.val (.ref o0), .val (.int (0 : Int32)), .val (.int (3 : Int32)), .unset, .unset] [(.ref sa2)]) X2 hS (by rw [e2]; exact hk) (fun h => by cases h) (fun fs hr => retOut X2 hx (t := (.object "java/lang/String")) hret rfl (Or.inr (Or.inr (Or.inr (Or.inr ⟨rfl, rfl, rfl⟩)))) (hb hby d13_55) hr) ?_ (by decide) (by decide)
  try rw [e2]
  exact ⟨sa2, rfl, N0, E2, Ea2, Fc2, sd2, Fv2, Al2⟩
theorem own_ef1 (m : MethodId) (p0 : Int32) : entryFrame m #[(.int p0)] 1 = mkF m 0 #[.val (.int p0)] [] := by first | (simp [entryFrame, mkF, argsToLocals, Value.category]; done) | rfl
theorem own_pn1 : plainName "com/example/postledger/postledger/Sql" = true := by first | (simp [plainName, overriddenIn]; done) | decide +kernel
theorem d1_0 : decode prog_16_method_2_code 0 = .ok (.new 7, 3) := by decide +kernel
theorem d1_3 : decode prog_16_method_2_code 3 = .ok (.dup, 1) := by decide +kernel
theorem d1_4 : decode prog_16_method_2_code 4 = .ok (.invokespecial 9, 3) := by decide +kernel
theorem own_pd_19 : parseMethodDescriptor "()V" = some ⟨[], none⟩ := by decide +kernel
theorem d1_7 : decode prog_16_method_2_code 7 = .ok (.ldc 10, 2) := by decide +kernel
theorem d1_9 : decode prog_16_method_2_code 9 = .ok (.invokevirtual 12, 3) := by decide +kernel
theorem own_pd_20 : parseMethodDescriptor "(Ljava/lang/String;)Ljava/lang/StringBuilder;" = some ⟨[(.object "java/lang/String")], some (.object "java/lang/StringBuilder")⟩ := by decide +kernel
theorem d1_12 : decode prog_16_method_2_code 12 = .ok (.ldc 16, 2) := by decide +kernel
theorem d1_14 : decode prog_16_method_2_code 14 = .ok (.iload_n 0, 1) := by decide +kernel
theorem d1_15 : decode prog_16_method_2_code 15 = .ok (.iconst 1, 1) := by decide +kernel
theorem d1_16 : decode prog_16_method_2_code 16 = .ok (.isub, 1) := by decide +kernel
theorem d1_17 : decode prog_16_method_2_code 17 = .ok (.invokevirtual 18, 3) := by decide +kernel
theorem own_pd_21 : parseMethodDescriptor "(I)Ljava/lang/String;" = some ⟨[.int], some (.object "java/lang/String")⟩ := by decide +kernel
theorem d1_20 : decode prog_16_method_2_code 20 = .ok (.invokevirtual 12, 3) := by decide +kernel
theorem d1_23 : decode prog_16_method_2_code 23 = .ok (.invokevirtual 24, 3) := by decide +kernel
theorem own_pd_22 : parseMethodDescriptor "()Ljava/lang/String;" = some ⟨[], some (.object "java/lang/String")⟩ := by decide +kernel
theorem d1_26 : decode prog_16_method_2_code 26 = .ok (.areturn, 1) := by decide +kernel
def own_Q1 (Z : State) (p0 : Int32) (nn : Nat) (h0 : Heap) (n0 : Nat) (v : Option Value) (h : Heap) (L : List Loc) : Prop := ∃ r : Addr, v = some (.ref r) ∧ Fr n0 L ∧ h0.size ≤ r ∧ Keep h0 h [] ∧ Exa Z h r "java/lang/String" ∧ Fld Z h r "java/lang/String" "coder" "B" (.int (0 : Int32)) ∧ ∃ (nb : Addr) (ff : Nat → Value), h0.size ≤ nb ∧ r ≠ nb ∧ Fld Z h r "java/lang/String" "value" "[B" (.ref nb) ∧ own_Av Z h nb .byte (3 * nn - 2) ff ∧ ∀ i, i < 3 * nn - 2 → ff i = .int (own_exp i)
set_option maxRecDepth 65536 in
set_option maxHeartbeats 40000000 in
theorem rm1 (l : Launch) (Z : State) (a0 : Array Value) (hw : ∀ d ∈ tables_1, d.before a0 Z = true) (ws : List Jvm.Cond) (p0 : Int32) (nn : Nat) (h0 : Heap) (n0 : Nat) (Z0 : n0 ≤ h0.size) (PS : own_St Z n0 h0) (Pn : p0.toInt = (nn : Int)) (B1 : 1 ≤ nn) (B2 : nn ≤ 64) :
    MetFree l (⟨"com/example/postledger/postledger/Sql", "placeholders", "(I)Ljava/lang/String;"⟩ : MethodName) (head1 (Jvm.Cond.code (⟨"com/example/postledger/postledger/Sql", "placeholders", "(I)Ljava/lang/String;"⟩ : MethodName) prog_16_method_2_code 1 (some (.object "java/lang/String")) :: ws) ({ frames := 6, cells := 11, slots := 652, locals := 91 } : Room)) (fun a U => a = #[(.int p0)] ∧ Z.Warmed39 U.vm ∧ U.heap = h0 ∧ CHv Z consts_1 U.vm h0) (fun _ _ _ _ _ => True) (fun _ U o U' => ∃ v L, o = .returned v ∧ own_Q1 Z p0 nn h0 n0 v U'.heap L ∧ ReturnedEndW U o U' L ({ frames := 6, cells := 11, slots := 652, locals := 91 } : Room).cells ({ frames := 6, cells := 11, slots := 652, locals := 91 } : Room).slots) := by
  refine own_metfreeH (EL := consts_1) (Q := own_Q1 Z p0 nn h0 n0) (plainFor_of_name own_pn1) ?_
  intro p e s m below meth c s₁ X0 hx hby hml hret hown hnm hZ e0 hC0 G go fin
  have N0 := Fr.nil n0
  have hS : s.Since s.vm 0 := (State.WarmedH.refl s).since 0
  have hk : 0 ≤ h0.size := Nat.zero_le _
  refine go _ (s₁.setTop (mkF m 0 #[.val (.int p0)] [])) (fun t k => castTop (own_ef1 m p0) k) ?_
  obtain ⟨T1, h1, X1, e1, E1, Ax1, D1, -, st1⟩ := newO X0 hx hZ hown (hw _ (List.mem_of_getElem? (i := 4) rfl)) (hw _ (List.mem_of_getElem? (i := 5) rfl)) (hw _ (List.mem_of_getElem? (i := 6) rfl)) e0 (g := (mkF m 0 #[.val (.int p0)] [])) rfl (hb hby d1_0) (by decide) (by decide)
  obtain ⟨b1, gb1⟩ : ∃ z, z = h0.size := ⟨_, rfl⟩
  rw [← gb1] at Ax1 D1 st1
  have g_b1 : n0 ≤ b1 := Nat.le_trans Z0 (Nat.le_of_eq gb1.symm)
  have sz_b1 : h0.size ≤ b1 := (Nat.le_of_eq gb1.symm)
  have F_value_b1 : Fld Z h1 b1 "java/lang/AbstractStringBuilder" "value" "[B" .null := D1 (Or.inl (hw _ (List.mem_of_getElem? (i := 23) rfl))) (ty := (.array .byte)) (by decide)
  have F_coder_b1 : Fld Z h1 b1 "java/lang/AbstractStringBuilder" "coder" "B" (.int (0 : Int32)) := D1 (Or.inl (hw _ (List.mem_of_getElem? (i := 25) rfl))) (ty := .byte) (by decide)
  have F_count_b1 : Fld Z h1 b1 "java/lang/AbstractStringBuilder" "count" "I" (.int (0 : Int32)) := D1 (Or.inl (hw _ (List.mem_of_getElem? (i := 56) rfl))) (ty := .int) (by decide)
  refine go _ (T1.setTop (mkF m 3 #[.val (.int p0)] [(.ref b1)])) st1 ?_
  refine go _ (T1.setTop (mkF m 4 #[.val (.int p0)] [(.ref b1), (.ref b1)])) (fun t k => XS.dup X1.here hx rfl (hb hby d1_3) rfl rfl k) ?_
  have Z2z : n0 ≤ h1.size := (Nat.le_trans Z0 E1.1)
  have PS3 : own_St Z n0 h1 := PS.keep ((Keep.refl h0 []).ext E1) own_ge0
  obtain ⟨_, _, ⟨T4, L4, k4, n4⟩, -, X4, ⟨Lc4, hQ4, l4, y4, z4⟩, st4⟩ := X1.specialBack hx (y := (⟨"java/lang/StringBuilder", "<init>", "()V"⟩ : MethodName)) rfl hown (mvT hZ (hw _ (List.mem_of_getElem? (i := 7) rfl))) (mvT hZ (hw _ (List.mem_of_getElem? (i := 8) rfl))) (mvT hZ (hw _ (List.mem_of_getElem? (i := 9) rfl))) (by decide) (backOf (W := 1) (rm2 l Z a0 hw [] b1 h1 n0 Z2z PS3 Ax1 F_value_b1 F_coder_b1 F_count_b1 g_b1) hZ (hw _ (List.mem_of_getElem? (i := 9) rfl)) (hw _ (List.mem_of_getElem? (i := 6) rfl)) (by decide) (by decide)) (g := (mkF m 4 #[.val (.int p0)] [(.ref b1), (.ref b1)])) rfl (by rw [hml]; rfl) (Steps.refl _) (a := b1) (argsL := []) (rest := [(.ref b1)]) (lenOf own_pd_19 rfl) rfl (by show 2 * 0 + _ ≤ _; exact Nat.le_of_eq rfl) (hb hby d1_4) (fun _ _ => ⟨rfl, e1, (by decide : 1 + 1 ≤ _), (by decide : 4 + 16 ≤ _)⟩)
  dsimp only [Pt.U, Pt.locs, Pt.cells, Pt.slots] at X4 l4 y4 z4 st4 hQ4
  subst l4 y4 z4
  obtain ⟨rfl, Nq4, K4, Ex4, Fc4, Fn4, nb4, sz4, Fv4, Xn4, An4⟩ := hQ4
  have N4 := Fr.app N0 Nq4
  have ne5_b1_nb4 : b1 ≠ nb4 := Nat.ne_of_lt (Nat.lt_of_lt_of_le Ax1.lt sz4)
  have S6s : h0.size ≤ h1.size ∧ True := ⟨E1.1, trivial⟩
  have sz_nb4 : h0.size ≤ nb4 := (Nat.le_trans S6s.1 sz4)
  have g_nb4 : n0 ≤ nb4 := Nat.le_trans Z2z sz4
  refine go _ (T4.setTop (mkF m 7 #[.val (.int p0)] [(.ref b1)])) (fun t k => st4.trans k) ?_
  have Kp : Keep h0 T4.heap [] := (((Keep.refl h0 []).ext E1).trans K4 (allS (Or.inr sz_b1) all0))
  have hC1 := hC0.keep Kp sf0
  have Su1 : Safe Z consts_1 s.vm T4.heap b1 := Safe.keep Kp sf0 hC0 (Safe.new sz_b1)
  have So1 : Safe Z consts_1 s.vm T4.heap nb4 := Safe.keep Kp sf0 hC0 (Safe.new sz_nb4)
  have hk := (Nat.le_trans (Nat.le_trans hk E1.1) K4.1)
  have Z8z : n0 ≤ T4.heap.size := (Nat.le_trans Z2z K4.1)
  obtain ⟨sa7, T7, h7, k7, sd7, kc7, X7, e7, E7, hS, hk, hZ, hown, Ea7, Fc7, Fv7, Ar7, la7, lb7, hC7, -, hSf7, st7⟩ := ldcCH (s := s) (vm0 := s.vm) X4 hx hZ hown (hw _ (List.mem_of_getElem? (i := 26) rfl)) (fun a ha => hw a (own_strs a ha)) rfl hS hk (own_EL hw) (List.mem_of_getElem? (i := 0) rfl) hC1 (vs := [Value.int 63]) (z := (1 : Int32)) ⟨by decide, by first | rfl | decide⟩ (by decide) (by decide) (g := (mkF m 7 #[.val (.int p0)] [(.ref b1)])) rfl (hb hby d1_7) (n := 4) (by decide) (by decide) (by decide) (by decide)
  have Al7 : own_Av Z h7 sd7 .byte 1 own_lit1 := own_of_arvL Ar7 (by decide)
  refine go _ (T7.setTop (mkF m 9 #[.val (.int p0)] [(.ref sa7), (.ref b1)])) st7 ?_
  have Su2 := hC7.safe Ex4.lt Su1
  have nlu := hSf7 _ Su2
  have So2 := hC7.safe An4.lt So1
  have nlo := hSf7 _ So2
  have E9_b1 : Exa Z h7 b1 "java/lang/StringBuilder" := (Ex4.ext E7)
  have F10_coder_b1 : Fld Z h7 b1 "java/lang/AbstractStringBuilder" "coder" "B" (.int (0 : Int32)) := (Fc4.ext E7)
  have F11_value_b1 : Fld Z h7 b1 "java/lang/AbstractStringBuilder" "value" "[B" (.ref nb4) := (Fv4.ext E7)
  have A12_nb4 : own_Av Z h7 nb4 .byte 16 (fun _ => (.int 0)) := (An4.ext E7)
  have E13_nb4 : Exa Z h7 nb4 "[B" := (Xn4.ext E7)
  have F14_count_b1 : Fld Z h7 b1 "java/lang/AbstractStringBuilder" "count" "I" (.int (0 : Int32)) := (Fn4.ext E7)
  have Z15z : n0 ≤ h7.size := (Nat.le_trans Z8z E7.1)
  have PS16 : own_St Z n0 h7 := PS.keep ((((Keep.refl h0 []).ext E1).trans K4 (allS (Or.inr sz_b1) all0)).ext E7) own_ge0
  obtain ⟨cq17, kq17, q17a, q17b, q17c⟩ := isOf hZ e7 E9_b1
  obtain ⟨_, _, ⟨T17, L17, k17, n17⟩, -, X17, ⟨Lc17, hQ17, l17, y17, z17⟩, st17⟩ := X7.virtualBack hx (y := (⟨"java/lang/StringBuilder", "append", "(Ljava/lang/String;)Ljava/lang/StringBuilder;"⟩ : MethodName)) (z := (⟨"java/lang/StringBuilder", "append", "(Ljava/lang/String;)Ljava/lang/StringBuilder;"⟩ : MethodName)) hown (mvT hZ (hw _ (List.mem_of_getElem? (i := 32) rfl))) (mvT hZ (hw _ (List.mem_of_getElem? (i := 33) rfl))) (notFace_of_selects (args := #[]) (mvT hZ (hw _ (List.mem_of_getElem? (i := 35) rfl)))) (mvT hZ (hw _ (List.mem_of_getElem? (i := 35) rfl))) (mvT hZ (hw _ (List.mem_of_getElem? (i := 34) rfl))) (by decide) (backOf (W := 0) (rm5_a l Z a0 hw [] b1 sa7 nb4 (fun _ => (.int 0)) (0 : Int32) 0 sd7 1 own_lit1 h7 n0 Z15z PS16 E9_b1 F10_coder_b1 F11_value_b1 A12_nb4 E13_nb4 F14_count_b1 Ea7 Fc7 Fv7 Al7 (by decide) (by decide) (by decide) g_b1 g_nb4 nlu.1 ne5_b1_nb4 nlu.2 (Ne.symm nlo.1) nlo.2) hZ (hw _ (List.mem_of_getElem? (i := 36) rfl)) (hw _ (List.mem_of_getElem? (i := 6) rfl)) (by decide) (by decide)) q17a q17c (g := (mkF m 9 #[.val (.int p0)] [(.ref sa7), (.ref b1)])) rfl (by rw [hml]; rfl) (Steps.refl _) (argsL := [(.ref sa7)]) (rest := []) (lenOf own_pd_20 rfl) rfl (by show 2 * 0 + _ ≤ _; exact Nat.le_of_eq rfl) (hb hby d1_9) (fun _ _ => ⟨rfl, e7, (by decide : 4 + 0 ≤ _), (by decide : 28 + 0 ≤ _)⟩)
  dsimp only [Pt.U, Pt.locs, Pt.cells, Pt.slots] at X17 l17 y17 z17 st17 hQ17
  subst l17 y17 z17
  obtain ⟨rfl, Nq17, K17, Ex17, Fc17, Fn17, Fv17, Xn17, An17⟩ := hQ17
  have N17 := Fr.app N4 Nq17
  refine go _ (T17.setTop (mkF m 12 #[.val (.int p0)] [(.ref b1)])) (fun t k => st17.trans k) ?_
  have sfb := sfS Su2 (sfS So2 sf0)
  have hC2 := hC7.1.keep K17 sfb
  have Su3 := Safe.keep K17 sfb hC7.1 Su2
  have So3 := Safe.keep K17 sfb hC7.1 So2
  have hk := (Nat.le_trans hk K17.1)
  have Z19z : n0 ≤ T17.heap.size := (Nat.le_trans Z15z K17.1)
  obtain ⟨sa18, T18, h18, k18, sd18, kc18, X18, e18, E18, hS, hk, hZ, hown, Ea18, Fc18, Fv18, Ar18, la18, lb18, hC18, -, hSf18, st18⟩ := ldcCH (s := s) (vm0 := T7.vm) X17 hx hZ hown (hw _ (List.mem_of_getElem? (i := 82) rfl)) (fun a ha => hw a (own_strs a ha)) rfl hS hk (own_EL hw) (List.mem_of_getElem? (i := 1) rfl) hC2 (vs := [Value.int 44, Value.int 32, Value.int 63]) (z := (3 : Int32)) ⟨by decide, by first | rfl | decide⟩ (by decide) (by decide) (g := (mkF m 12 #[.val (.int p0)] [(.ref b1)])) rfl (hb hby d1_12) (n := 12) (by decide) (by decide) (by decide) (by decide)
  have Al18 : own_Av Z h18 sd18 .byte 3 own_lit3 := own_of_arvL Ar18 (by decide)
  refine go _ (T18.setTop (mkF m 14 #[.val (.int p0)] [(.ref sa18), (.ref b1)])) st18 ?_
  have Su4 := hC18.safe Ex17.lt Su3
  have nmu := hSf18 _ Su4
  have So4 := hC18.safe An17.lt So3
  have nmo := hSf18 _ So4
  rcases (by omega : nn = 1 ∨ nn = 2 ∨ (3 ≤ nn ∧ nn ≤ 6) ∨ 7 ≤ nn) with q1 | q1 | q1 | q1
  · refine go _ (T18.setTop (mkF m 15 #[.val (.int p0)] [(.int p0), (.ref sa18), (.ref b1)])) (fun t k => XS.iloadN X18.here hx rfl (hb hby d1_14) rfl k) ?_
    refine go _ (T18.setTop (mkF m 16 #[.val (.int p0)] [(.int (1 : Int32)), (.int p0), (.ref sa18), (.ref b1)])) (fun t k => XS.iconst X18.here hx rfl (hb hby d1_15) k) ?_
    refine go _ (T18.setTop (mkF m 17 #[.val (.int p0)] [(.int (p0 - (1 : Int32))), (.ref sa18), (.ref b1)])) (fun t k => XS.isub X18.here hx rfl (hb hby d1_16) rfl k) ?_
    have hj0 := own_subn Pn (k := (1 : Int32)) (n := 1) (by decide) B1 (by omega)
    have ej : (p0 - (1 : Int32)) = (0 : Int32) := (own_eqn hj0 (n := 0) (by decide)).mpr (by omega)
    rw [ej]
    have Z20z : n0 ≤ h18.size := (Nat.le_trans Z19z E18.1)
    obtain ⟨cq21, kq21, q21a, q21b, q21c⟩ := isOf hZ e18 Ea18
    obtain ⟨_, _, ⟨T21, L21, k21, n21⟩, -, X21, hS21, hG21, ⟨Lc21, hQ21, l21, y21, z21⟩, st21⟩ := X18.virtualBackS hx (y := (⟨"java/lang/String", "repeat", "(I)Ljava/lang/String;"⟩ : MethodName)) (z := (⟨"java/lang/String", "repeat", "(I)Ljava/lang/String;"⟩ : MethodName)) hown (mvT hZ (hw _ (List.mem_of_getElem? (i := 83) rfl))) (mvT hZ (hw _ (List.mem_of_getElem? (i := 84) rfl))) (notFace_of_selects (args := #[]) (mvT hZ (hw _ (List.mem_of_getElem? (i := 86) rfl)))) (mvT hZ (hw _ (List.mem_of_getElem? (i := 86) rfl))) (mvT hZ (hw _ (List.mem_of_getElem? (i := 85) rfl))) (by decide) (own_backH (s := s) (vm0 := T18.vm) (W := 1) (rm13_0 l Z a0 hw [] sa18 (0 : Int32) sd18 own_lit3 h18 n0 Z20z Ea18 Fc18 Fv18 Al18 rfl) hZ (hw _ (List.mem_of_getElem? (i := 87) rfl)) (hw _ (List.mem_of_getElem? (i := 20) rfl)) (by decide) (by decide) (own_EL hw) hC18.1) q21a q21c (g := (mkF m 17 #[.val (.int p0)] [(.int (0 : Int32)), (.ref sa18), (.ref b1)])) rfl (by rw [hml]; rfl) (Steps.refl _) (argsL := [(.int (0 : Int32))]) (rest := [(.ref b1)]) (lenOf own_pd_21 rfl) rfl (by show 2 * 0 + _ ≤ _; exact Nat.le_of_eq rfl) (hb hby d1_17) (fun _ _ => ⟨rfl, e18, (by decide : 6 + 2 ≤ _), (by decide : 44 + 4 ≤ _)⟩)
    dsimp only [Pt.U, Pt.locs, Pt.cells, Pt.slots] at X21 l21 y21 z21 st21 hQ21 hS21 hG21
    subst l21 y21 z21
    have hZ : Z.Warmed39 (s.setVm T21.vm).vm := State.Warmed39.trans (t := s.setVm T18.vm) hZ hS21.1
    have hown : (s.setVm T21.vm).vm.findClass "com/example/postledger/postledger/Sql" = some m.cls := by show T21.vm.findClass _ = _; rw [hS21.1.alike.findClass]; exact hown
    have hS : s.Since T21.vm T21.heap.size := hS.trans hS21 (Nat.le_trans hk (Nat.le_trans (Nat.le_of_eq (congrArg Array.size e18.symm)) hG21))
    have hk : T21.heap.size ≤ T21.heap.size := Nat.le_refl _
    obtain ⟨r21, rfl, Nq21, En21, Ex21, Fc21, nb21, Fv21, An21⟩ := hQ21
    have N21 := Fr.app N17 Nq21
    have E22_b1 : Exa Z T21.heap b1 "java/lang/StringBuilder" := ((Ex17.ext E18).ext En21)
    have E23_nb4 : Exa Z T21.heap nb4 "[B" := ((Xn17.ext E18).ext En21)
    have A24_nb4 : own_Av Z T21.heap nb4 .byte 16 (own_app (fun _ => (.int 0)) 0 1 own_lit1) := ((An17.ext E18).ext En21)
    have nx25 : b1 ≠ r21 := ne_exa E22_b1 Ex21 (by decide)
    have nx26 : nb4 ≠ r21 := ne_exa E23_nb4 Ex21 (by decide)
    have nx27 : nb4 ≠ nb21 := A24_nb4.ne An21 (by decide)
    have nx28 : b1 ≠ nb21 := (own_av_exa An21 E22_b1 (hw _ (List.mem_of_getElem? (i := 5) rfl))).symm
    refine go _ (T21.setTop (mkF m 20 #[.val (.int p0)] [(.ref r21), (.ref b1)])) (fun t k => st21.trans k) ?_
    have F29_coder_b1 : Fld Z T21.heap b1 "java/lang/AbstractStringBuilder" "coder" "B" (.int (0 : Int32)) := ((Fc17.ext E18).ext En21)
    have F30_value_b1 : Fld Z T21.heap b1 "java/lang/AbstractStringBuilder" "value" "[B" (.ref nb4) := ((Fv17.ext E18).ext En21)
    have F31_count_b1 : Fld Z T21.heap b1 "java/lang/AbstractStringBuilder" "count" "I" (.int ((0 : Int32) + (Int32.ofNat 1))) := ((Fn17.ext E18).ext En21)
    have Z32z : n0 ≤ T21.heap.size := (Nat.le_trans Z20z En21.1)
    have PS33 : own_St Z n0 T21.heap := PS.keep (((((((Keep.refl h0 []).ext E1).trans K4 (allS (Or.inr sz_b1) all0)).ext E7).trans K17 (allS (Or.inr sz_b1) (allS (Or.inr sz_nb4) all0))).ext E18).ext En21) own_ge0
    obtain ⟨cq34, kq34, q34a, q34b, q34c⟩ := isOf hZ rfl E22_b1
    obtain ⟨_, _, ⟨T34, L34, k34, n34⟩, -, X34, ⟨Lc34, hQ34, l34, y34, z34⟩, st34⟩ := X21.virtualBack hx (y := (⟨"java/lang/StringBuilder", "append", "(Ljava/lang/String;)Ljava/lang/StringBuilder;"⟩ : MethodName)) (z := (⟨"java/lang/StringBuilder", "append", "(Ljava/lang/String;)Ljava/lang/StringBuilder;"⟩ : MethodName)) hown (mvT hZ (hw _ (List.mem_of_getElem? (i := 32) rfl))) (mvT hZ (hw _ (List.mem_of_getElem? (i := 33) rfl))) (notFace_of_selects (args := #[]) (mvT hZ (hw _ (List.mem_of_getElem? (i := 35) rfl)))) (mvT hZ (hw _ (List.mem_of_getElem? (i := 35) rfl))) (mvT hZ (hw _ (List.mem_of_getElem? (i := 34) rfl))) (by decide) (backOf (W := 0) (rm5_a l Z a0 hw [] b1 r21 nb4 (own_app (fun _ => (.int 0)) 0 1 own_lit1) ((0 : Int32) + (Int32.ofNat 1)) 1 nb21 0 (fun i => ([] : List Value).getD i (.int 0)) T21.heap n0 Z32z PS33 E22_b1 F29_coder_b1 F30_value_b1 A24_nb4 E23_nb4 F31_count_b1 Ex21 Fc21 Fv21 An21 (by decide) (by omega) (by omega) g_b1 g_nb4 nx25 ne5_b1_nb4 nx28 (Ne.symm nx26) nx27) hZ (hw _ (List.mem_of_getElem? (i := 36) rfl)) (hw _ (List.mem_of_getElem? (i := 6) rfl)) (by decide) (by decide)) q34a q34c (g := (mkF m 20 #[.val (.int p0)] [(.ref r21), (.ref b1)])) rfl (by rw [hml]; rfl) (Steps.refl _) (argsL := [(.ref r21)]) (rest := []) (lenOf own_pd_20 rfl) rfl (by show 2 * 0 + _ ≤ _; exact Nat.le_of_eq rfl) (hb hby d1_20) (fun _ _ => ⟨rfl, rfl, (by decide : 8 + 0 ≤ _), (by decide : 48 + 0 ≤ _)⟩)
    dsimp only [Pt.U, Pt.locs, Pt.cells, Pt.slots] at X34 l34 y34 z34 st34 hQ34
    subst l34 y34 z34
    obtain ⟨rfl, Nq34, K34, Ex34, Fc34, Fn34, Fv34, Xn34, An34⟩ := hQ34
    have N34 := Fr.app N21 Nq34
    refine go _ (T34.setTop (mkF m 23 #[.val (.int p0)] [(.ref b1)])) (fun t k => st34.trans k) ?_
    have Z35z : n0 ≤ T34.heap.size := (Nat.le_trans Z32z K34.1)
    have PS36 : own_St Z n0 T34.heap := PS.keep ((((((((Keep.refl h0 []).ext E1).trans K4 (allS (Or.inr sz_b1) all0)).ext E7).trans K17 (allS (Or.inr sz_b1) (allS (Or.inr sz_nb4) all0))).ext E18).ext En21).trans K34 (allS (Or.inr sz_b1) (allS (Or.inr sz_nb4) all0))) own_ge0
    obtain ⟨cq37, kq37, q37a, q37b, q37c⟩ := isOf hZ rfl Ex34
    obtain ⟨_, _, ⟨T37, L37, k37, n37⟩, -, X37, ⟨Lc37, hQ37, l37, y37, z37⟩, st37⟩ := X34.virtualBack hx (y := (⟨"java/lang/StringBuilder", "toString", "()Ljava/lang/String;"⟩ : MethodName)) (z := (⟨"java/lang/StringBuilder", "toString", "()Ljava/lang/String;"⟩ : MethodName)) hown (mvT hZ (hw _ (List.mem_of_getElem? (i := 89) rfl))) (mvT hZ (hw _ (List.mem_of_getElem? (i := 90) rfl))) (notFace_of_selects (args := #[]) (mvT hZ (hw _ (List.mem_of_getElem? (i := 92) rfl)))) (mvT hZ (hw _ (List.mem_of_getElem? (i := 92) rfl))) (mvT hZ (hw _ (List.mem_of_getElem? (i := 91) rfl))) (by decide) (backOf (W := 0) (rm14 l Z a0 hw [] b1 nb4 16 (own_app (own_app (fun _ => (.int 0)) 0 1 own_lit1) 1 0 (fun i => ([] : List Value).getD i (.int 0))) (((0 : Int32) + (Int32.ofNat 1)) + (Int32.ofNat 0)) (1 + 0) T34.heap n0 Z35z PS36 Ex34 Fc34 Fv34 An34 Xn34 Fn34 (own_addn (i := 1) (n := 0) (by decide) (own_n32 (by omega)) (by omega)) (by omega) (by omega)) hZ (hw _ (List.mem_of_getElem? (i := 93) rfl)) (hw _ (List.mem_of_getElem? (i := 6) rfl)) (by decide) (by decide)) q37a q37c (g := (mkF m 23 #[.val (.int p0)] [(.ref b1)])) rfl (by rw [hml]; rfl) (Steps.refl _) (argsL := []) (rest := []) (lenOf own_pd_22 rfl) rfl (by show 2 * 0 + _ ≤ _; exact Nat.le_of_eq rfl) (hb hby d1_23) (fun _ _ => ⟨rfl, rfl, (by decide : 8 + 2 ≤ _), (by decide : 48 + 204 ≤ _)⟩)
    dsimp only [Pt.U, Pt.locs, Pt.cells, Pt.slots] at X37 l37 y37 z37 st37 hQ37
    subst l37 y37 z37
    obtain ⟨r37, rfl, Nq37, szr37, K37, Ex37, Fc37, nb37, ff37, sz37, nrb37, Fv37, An37, ag37⟩ := hQ37
    have N37 := Fr.app N34 Nq37
    have ne38_b1_r37 : b1 ≠ r37 := Nat.ne_of_lt (Nat.lt_of_lt_of_le Ex34.lt szr37)
    have A39_nb21 : own_Av Z T34.heap nb21 .byte 0 (fun i => ([] : List Value).getD i (.int 0)) := (An21.keep K34 (ninS (Ne.symm nx28) (ninS (Ne.symm nx27) nin0)))
    have ne40_nb21_r37 : nb21 ≠ r37 := Nat.ne_of_lt (Nat.lt_of_lt_of_le A39_nb21.lt szr37)
    have ne41_nb4_r37 : nb4 ≠ r37 := Nat.ne_of_lt (Nat.lt_of_lt_of_le Xn34.lt szr37)
    have E42_r21 : Exa Z T34.heap r21 "java/lang/String" := (Ex21.keep K34)
    have ne43_r21_r37 : r21 ≠ r37 := Nat.ne_of_lt (Nat.lt_of_lt_of_le E42_r21.lt szr37)
    have E44_sa18 : Exa Z T34.heap sa18 "java/lang/String" := ((Ea18.ext En21).keep K34)
    have ne45_sa18_r37 : sa18 ≠ r37 := Nat.ne_of_lt (Nat.lt_of_lt_of_le E44_sa18.lt szr37)
    have E46_sa7 : Exa Z T34.heap sa7 "java/lang/String" := ((((Ea7.keep K17).ext E18).ext En21).keep K34)
    have ne47_sa7_r37 : sa7 ≠ r37 := Nat.ne_of_lt (Nat.lt_of_lt_of_le E46_sa7.lt szr37)
    have A48_sd18 : own_Av Z T34.heap sd18 .byte 3 own_lit3 := ((Al18.ext En21).keep K34 (ninS (Ne.symm nmu.2) (ninS (Ne.symm nmo.2) nin0)))
    have ne49_sd18_r37 : sd18 ≠ r37 := Nat.ne_of_lt (Nat.lt_of_lt_of_le A48_sd18.lt szr37)
    have A50_sd7 : own_Av Z T34.heap sd7 .byte 1 own_lit1 := ((((Al7.keep K17 (ninS (Ne.symm nlu.2) (ninS (Ne.symm nlo.2) nin0))).ext E18).ext En21).keep K34 (ninS (Ne.symm nlu.2) (ninS (Ne.symm nlo.2) nin0)))
    have ne51_sd7_r37 : sd7 ≠ r37 := Nat.ne_of_lt (Nat.lt_of_lt_of_le A50_sd7.lt szr37)
    have S52s : h0.size ≤ T34.heap.size ∧ True := ⟨(Nat.le_trans (Nat.le_trans (Nat.le_trans (Nat.le_trans (Nat.le_trans (Nat.le_trans S6s.1 K4.1) E7.1) K17.1) E18.1) En21.1) K34.1), trivial⟩
    have sz_r37 : h0.size ≤ r37 := (Nat.le_trans S52s.1 szr37)
    have ne53_b1_nb37 : b1 ≠ nb37 := Nat.ne_of_lt (Nat.lt_of_lt_of_le Ex34.lt sz37)
    have ne54_nb21_nb37 : nb21 ≠ nb37 := Nat.ne_of_lt (Nat.lt_of_lt_of_le A39_nb21.lt sz37)
    have ne55_nb4_nb37 : nb4 ≠ nb37 := Nat.ne_of_lt (Nat.lt_of_lt_of_le Xn34.lt sz37)
    have ne56_r21_nb37 : r21 ≠ nb37 := Nat.ne_of_lt (Nat.lt_of_lt_of_le E42_r21.lt sz37)
    have ne57_sa18_nb37 : sa18 ≠ nb37 := Nat.ne_of_lt (Nat.lt_of_lt_of_le E44_sa18.lt sz37)
    have ne58_sa7_nb37 : sa7 ≠ nb37 := Nat.ne_of_lt (Nat.lt_of_lt_of_le E46_sa7.lt sz37)
    have ne59_sd18_nb37 : sd18 ≠ nb37 := Nat.ne_of_lt (Nat.lt_of_lt_of_le A48_sd18.lt sz37)
    have ne60_sd7_nb37 : sd7 ≠ nb37 := Nat.ne_of_lt (Nat.lt_of_lt_of_le A50_sd7.lt sz37)
    have S61s : h0.size ≤ T34.heap.size ∧ True := ⟨S52s.1, trivial⟩
    have sz_nb37 : h0.size ≤ nb37 := (Nat.le_trans S61s.1 sz37)
    have g_r37 : n0 ≤ r37 := Nat.le_trans Z35z szr37
    have g_nb37 : n0 ≤ nb37 := Nat.le_trans Z35z sz37
    refine go _ (T37.setTop (mkF m 26 #[.val (.int p0)] [(.ref r37)])) (fun t k => st37.trans k) ?_
    have hmm : 1 + 0 = 3 * nn - 2 := by omega
    have htx := own_txt ag37 (own_app1 _) (fun i hi => absurd hi (Nat.not_lt_zero _))
    have Afin := An37
    rw [hmm] at htx Afin
    have hk := (Nat.le_trans (Nat.le_trans hk K34.1) K37.1)
    refine fin (some (.ref r37)) (mkF m 26 #[.val (.int p0)] [(.ref r37)]) X37 hS hk (fun h => by cases h) (fun fs hr => retOut X37 hx (t := (.object "java/lang/String")) hret rfl (Or.inr (Or.inr (Or.inr (Or.inr ⟨rfl, rfl, rfl⟩)))) (hb hby d1_26) hr) ?_ (by decide) (by decide)
    exact ⟨r37, rfl, N37, sz_r37, (((((((((Keep.refl h0 []).ext E1).trans K4 (allS (Or.inr sz_b1) all0)).ext E7).trans K17 (allS (Or.inr sz_b1) (allS (Or.inr sz_nb4) all0))).ext E18).ext En21).trans K34 (allS (Or.inr sz_b1) (allS (Or.inr sz_nb4) all0))).trans K37 all0), Ex37, Fc37, nb37, _, sz_nb37, nrb37, Fv37, Afin, htx⟩
  · refine go _ (T18.setTop (mkF m 15 #[.val (.int p0)] [(.int p0), (.ref sa18), (.ref b1)])) (fun t k => XS.iloadN X18.here hx rfl (hb hby d1_14) rfl k) ?_
    refine go _ (T18.setTop (mkF m 16 #[.val (.int p0)] [(.int (1 : Int32)), (.int p0), (.ref sa18), (.ref b1)])) (fun t k => XS.iconst X18.here hx rfl (hb hby d1_15) k) ?_
    refine go _ (T18.setTop (mkF m 17 #[.val (.int p0)] [(.int (p0 - (1 : Int32))), (.ref sa18), (.ref b1)])) (fun t k => XS.isub X18.here hx rfl (hb hby d1_16) rfl k) ?_
    have hj0 := own_subn Pn (k := (1 : Int32)) (n := 1) (by decide) B1 (by omega)
    have ej : (p0 - (1 : Int32)) = (1 : Int32) := (own_eqn hj0 (n := 1) (by decide)).mpr (by omega)
    rw [ej]
    have Z62z : n0 ≤ h18.size := (Nat.le_trans Z19z E18.1)
    obtain ⟨cq63, kq63, q63a, q63b, q63c⟩ := isOf hZ e18 Ea18
    obtain ⟨_, _, ⟨T63, L63, k63, n63⟩, -, X63, ⟨Lc63, hQ63, l63, y63, z63⟩, st63⟩ := X18.virtualBack hx (y := (⟨"java/lang/String", "repeat", "(I)Ljava/lang/String;"⟩ : MethodName)) (z := (⟨"java/lang/String", "repeat", "(I)Ljava/lang/String;"⟩ : MethodName)) hown (mvT hZ (hw _ (List.mem_of_getElem? (i := 83) rfl))) (mvT hZ (hw _ (List.mem_of_getElem? (i := 84) rfl))) (notFace_of_selects (args := #[]) (mvT hZ (hw _ (List.mem_of_getElem? (i := 86) rfl)))) (mvT hZ (hw _ (List.mem_of_getElem? (i := 86) rfl))) (mvT hZ (hw _ (List.mem_of_getElem? (i := 85) rfl))) (by decide) (backOf (W := 1) (rm13_1 l Z a0 hw [] sa18 (1 : Int32) h18 n0 Z62z rfl) hZ (hw _ (List.mem_of_getElem? (i := 87) rfl)) (hw _ (List.mem_of_getElem? (i := 20) rfl)) (by decide) (by decide)) q63a q63c (g := (mkF m 17 #[.val (.int p0)] [(.int (1 : Int32)), (.ref sa18), (.ref b1)])) rfl (by rw [hml]; rfl) (Steps.refl _) (argsL := [(.int (1 : Int32))]) (rest := [(.ref b1)]) (lenOf own_pd_21 rfl) rfl (by show 2 * 0 + _ ≤ _; exact Nat.le_of_eq rfl) (hb hby d1_17) (fun _ _ => ⟨rfl, e18, (by decide : 6 + 0 ≤ _), (by decide : 44 + 0 ≤ _)⟩)
    dsimp only [Pt.U, Pt.locs, Pt.cells, Pt.slots] at X63 l63 y63 z63 st63 hQ63
    subst l63 y63 z63
    obtain ⟨rfl, Nq63, eq63⟩ := hQ63
    have N63 := Fr.app N17 Nq63
    refine go _ (T63.setTop (mkF m 20 #[.val (.int p0)] [(.ref sa18), (.ref b1)])) (fun t k => st63.trans k) ?_
    have E64_b1 : Exa Z h18 b1 "java/lang/StringBuilder" := (Ex17.ext E18)
    have F65_coder_b1 : Fld Z h18 b1 "java/lang/AbstractStringBuilder" "coder" "B" (.int (0 : Int32)) := (Fc17.ext E18)
    have F66_value_b1 : Fld Z h18 b1 "java/lang/AbstractStringBuilder" "value" "[B" (.ref nb4) := (Fv17.ext E18)
    have A67_nb4 : own_Av Z h18 nb4 .byte 16 (own_app (fun _ => (.int 0)) 0 1 own_lit1) := (An17.ext E18)
    have E68_nb4 : Exa Z h18 nb4 "[B" := (Xn17.ext E18)
    have F69_count_b1 : Fld Z h18 b1 "java/lang/AbstractStringBuilder" "count" "I" (.int ((0 : Int32) + (Int32.ofNat 1))) := (Fn17.ext E18)
    have PS70 : own_St Z n0 h18 := PS.keep ((((((Keep.refl h0 []).ext E1).trans K4 (allS (Or.inr sz_b1) all0)).ext E7).trans K17 (allS (Or.inr sz_b1) (allS (Or.inr sz_nb4) all0))).ext E18) own_ge0
    obtain ⟨cq71, kq71, q71a, q71b, q71c⟩ := isOf hZ eq63 E64_b1
    obtain ⟨_, _, ⟨T71, L71, k71, n71⟩, -, X71, ⟨Lc71, hQ71, l71, y71, z71⟩, st71⟩ := X63.virtualBack hx (y := (⟨"java/lang/StringBuilder", "append", "(Ljava/lang/String;)Ljava/lang/StringBuilder;"⟩ : MethodName)) (z := (⟨"java/lang/StringBuilder", "append", "(Ljava/lang/String;)Ljava/lang/StringBuilder;"⟩ : MethodName)) hown (mvT hZ (hw _ (List.mem_of_getElem? (i := 32) rfl))) (mvT hZ (hw _ (List.mem_of_getElem? (i := 33) rfl))) (notFace_of_selects (args := #[]) (mvT hZ (hw _ (List.mem_of_getElem? (i := 35) rfl)))) (mvT hZ (hw _ (List.mem_of_getElem? (i := 35) rfl))) (mvT hZ (hw _ (List.mem_of_getElem? (i := 34) rfl))) (by decide) (backOf (W := 0) (rm5_a l Z a0 hw [] b1 sa18 nb4 (own_app (fun _ => (.int 0)) 0 1 own_lit1) ((0 : Int32) + (Int32.ofNat 1)) 1 sd18 3 own_lit3 h18 n0 Z62z PS70 E64_b1 F65_coder_b1 F66_value_b1 A67_nb4 E68_nb4 F69_count_b1 Ea18 Fc18 Fv18 Al18 (by decide) (by omega) (by omega) g_b1 g_nb4 nmu.1 ne5_b1_nb4 nmu.2 (Ne.symm nmo.1) nmo.2) hZ (hw _ (List.mem_of_getElem? (i := 36) rfl)) (hw _ (List.mem_of_getElem? (i := 6) rfl)) (by decide) (by decide)) q71a q71c (g := (mkF m 20 #[.val (.int p0)] [(.ref sa18), (.ref b1)])) rfl (by rw [hml]; rfl) (Steps.refl _) (argsL := [(.ref sa18)]) (rest := []) (lenOf own_pd_20 rfl) rfl (by show 2 * 0 + _ ≤ _; exact Nat.le_of_eq rfl) (hb hby d1_20) (fun _ _ => ⟨rfl, eq63, (by decide : 6 + 0 ≤ _), (by decide : 44 + 0 ≤ _)⟩)
    dsimp only [Pt.U, Pt.locs, Pt.cells, Pt.slots] at X71 l71 y71 z71 st71 hQ71
    subst l71 y71 z71
    obtain ⟨rfl, Nq71, K71, Ex71, Fc71, Fn71, Fv71, Xn71, An71⟩ := hQ71
    have N71 := Fr.app N63 Nq71
    refine go _ (T71.setTop (mkF m 23 #[.val (.int p0)] [(.ref b1)])) (fun t k => st71.trans k) ?_
    have Z72z : n0 ≤ T71.heap.size := (Nat.le_trans Z62z K71.1)
    have PS73 : own_St Z n0 T71.heap := PS.keep (((((((Keep.refl h0 []).ext E1).trans K4 (allS (Or.inr sz_b1) all0)).ext E7).trans K17 (allS (Or.inr sz_b1) (allS (Or.inr sz_nb4) all0))).ext E18).trans K71 (allS (Or.inr sz_b1) (allS (Or.inr sz_nb4) all0))) own_ge0
    obtain ⟨cq74, kq74, q74a, q74b, q74c⟩ := isOf hZ rfl Ex71
    obtain ⟨_, _, ⟨T74, L74, k74, n74⟩, -, X74, ⟨Lc74, hQ74, l74, y74, z74⟩, st74⟩ := X71.virtualBack hx (y := (⟨"java/lang/StringBuilder", "toString", "()Ljava/lang/String;"⟩ : MethodName)) (z := (⟨"java/lang/StringBuilder", "toString", "()Ljava/lang/String;"⟩ : MethodName)) hown (mvT hZ (hw _ (List.mem_of_getElem? (i := 89) rfl))) (mvT hZ (hw _ (List.mem_of_getElem? (i := 90) rfl))) (notFace_of_selects (args := #[]) (mvT hZ (hw _ (List.mem_of_getElem? (i := 92) rfl)))) (mvT hZ (hw _ (List.mem_of_getElem? (i := 92) rfl))) (mvT hZ (hw _ (List.mem_of_getElem? (i := 91) rfl))) (by decide) (backOf (W := 0) (rm14 l Z a0 hw [] b1 nb4 16 (own_app (own_app (fun _ => (.int 0)) 0 1 own_lit1) 1 3 own_lit3) (((0 : Int32) + (Int32.ofNat 1)) + (Int32.ofNat 3)) (1 + 3) T71.heap n0 Z72z PS73 Ex71 Fc71 Fv71 An71 Xn71 Fn71 (own_addn (i := 1) (n := 3) (by decide) (own_n32 (by omega)) (by omega)) (by omega) (by omega)) hZ (hw _ (List.mem_of_getElem? (i := 93) rfl)) (hw _ (List.mem_of_getElem? (i := 6) rfl)) (by decide) (by decide)) q74a q74c (g := (mkF m 23 #[.val (.int p0)] [(.ref b1)])) rfl (by rw [hml]; rfl) (Steps.refl _) (argsL := []) (rest := []) (lenOf own_pd_22 rfl) rfl (by show 2 * 0 + _ ≤ _; exact Nat.le_of_eq rfl) (hb hby d1_23) (fun _ _ => ⟨rfl, rfl, (by decide : 6 + 2 ≤ _), (by decide : 44 + 204 ≤ _)⟩)
    dsimp only [Pt.U, Pt.locs, Pt.cells, Pt.slots] at X74 l74 y74 z74 st74 hQ74
    subst l74 y74 z74
    obtain ⟨r74, rfl, Nq74, szr74, K74, Ex74, Fc74, nb74, ff74, sz74, nrb74, Fv74, An74, ag74⟩ := hQ74
    have N74 := Fr.app N71 Nq74
    have ne75_b1_r74 : b1 ≠ r74 := Nat.ne_of_lt (Nat.lt_of_lt_of_le Ex71.lt szr74)
    have ne76_nb4_r74 : nb4 ≠ r74 := Nat.ne_of_lt (Nat.lt_of_lt_of_le Xn71.lt szr74)
    have E77_sa18 : Exa Z T71.heap sa18 "java/lang/String" := (Ea18.keep K71)
    have ne78_sa18_r74 : sa18 ≠ r74 := Nat.ne_of_lt (Nat.lt_of_lt_of_le E77_sa18.lt szr74)
    have E79_sa7 : Exa Z T71.heap sa7 "java/lang/String" := (((Ea7.keep K17).ext E18).keep K71)
    have ne80_sa7_r74 : sa7 ≠ r74 := Nat.ne_of_lt (Nat.lt_of_lt_of_le E79_sa7.lt szr74)
    have A81_sd18 : own_Av Z T71.heap sd18 .byte 3 own_lit3 := (Al18.keep K71 (ninS (Ne.symm nmu.2) (ninS (Ne.symm nmo.2) nin0)))
    have ne82_sd18_r74 : sd18 ≠ r74 := Nat.ne_of_lt (Nat.lt_of_lt_of_le A81_sd18.lt szr74)
    have A83_sd7 : own_Av Z T71.heap sd7 .byte 1 own_lit1 := (((Al7.keep K17 (ninS (Ne.symm nlu.2) (ninS (Ne.symm nlo.2) nin0))).ext E18).keep K71 (ninS (Ne.symm nlu.2) (ninS (Ne.symm nlo.2) nin0)))
    have ne84_sd7_r74 : sd7 ≠ r74 := Nat.ne_of_lt (Nat.lt_of_lt_of_le A83_sd7.lt szr74)
    have S85s : h0.size ≤ T71.heap.size ∧ True := ⟨(Nat.le_trans (Nat.le_trans (Nat.le_trans (Nat.le_trans (Nat.le_trans S6s.1 K4.1) E7.1) K17.1) E18.1) K71.1), trivial⟩
    have sz_r74 : h0.size ≤ r74 := (Nat.le_trans S85s.1 szr74)
    have ne86_b1_nb74 : b1 ≠ nb74 := Nat.ne_of_lt (Nat.lt_of_lt_of_le Ex71.lt sz74)
    have ne87_nb4_nb74 : nb4 ≠ nb74 := Nat.ne_of_lt (Nat.lt_of_lt_of_le Xn71.lt sz74)
    have ne88_sa18_nb74 : sa18 ≠ nb74 := Nat.ne_of_lt (Nat.lt_of_lt_of_le E77_sa18.lt sz74)
    have ne89_sa7_nb74 : sa7 ≠ nb74 := Nat.ne_of_lt (Nat.lt_of_lt_of_le E79_sa7.lt sz74)
    have ne90_sd18_nb74 : sd18 ≠ nb74 := Nat.ne_of_lt (Nat.lt_of_lt_of_le A81_sd18.lt sz74)
    have ne91_sd7_nb74 : sd7 ≠ nb74 := Nat.ne_of_lt (Nat.lt_of_lt_of_le A83_sd7.lt sz74)
    have S92s : h0.size ≤ T71.heap.size ∧ True := ⟨S85s.1, trivial⟩
    have sz_nb74 : h0.size ≤ nb74 := (Nat.le_trans S92s.1 sz74)
    have g_r74 : n0 ≤ r74 := Nat.le_trans Z72z szr74
    have g_nb74 : n0 ≤ nb74 := Nat.le_trans Z72z sz74
    refine go _ (T74.setTop (mkF m 26 #[.val (.int p0)] [(.ref r74)])) (fun t k => st74.trans k) ?_
    have hmm : 1 + 3 = 3 * nn - 2 := by omega
    have htx := own_txt ag74 (own_app1 _) (fun i hi => by rw [Nat.mod_eq_of_lt hi])
    have Afin := An74
    rw [hmm] at htx Afin
    have hk := (Nat.le_trans (Nat.le_trans hk K71.1) K74.1)
    refine fin (some (.ref r74)) (mkF m 26 #[.val (.int p0)] [(.ref r74)]) X74 hS hk (fun h => by cases h) (fun fs hr => retOut X74 hx (t := (.object "java/lang/String")) hret rfl (Or.inr (Or.inr (Or.inr (Or.inr ⟨rfl, rfl, rfl⟩)))) (hb hby d1_26) hr) ?_ (by decide) (by decide)
    exact ⟨r74, rfl, N74, sz_r74, ((((((((Keep.refl h0 []).ext E1).trans K4 (allS (Or.inr sz_b1) all0)).ext E7).trans K17 (allS (Or.inr sz_b1) (allS (Or.inr sz_nb4) all0))).ext E18).trans K71 (allS (Or.inr sz_b1) (allS (Or.inr sz_nb4) all0))).trans K74 all0), Ex74, Fc74, nb74, _, sz_nb74, nrb74, Fv74, Afin, htx⟩
  · refine go _ (T18.setTop (mkF m 15 #[.val (.int p0)] [(.int p0), (.ref sa18), (.ref b1)])) (fun t k => XS.iloadN X18.here hx rfl (hb hby d1_14) rfl k) ?_
    refine go _ (T18.setTop (mkF m 16 #[.val (.int p0)] [(.int (1 : Int32)), (.int p0), (.ref sa18), (.ref b1)])) (fun t k => XS.iconst X18.here hx rfl (hb hby d1_15) k) ?_
    refine go _ (T18.setTop (mkF m 17 #[.val (.int p0)] [(.int (p0 - (1 : Int32))), (.ref sa18), (.ref b1)])) (fun t k => XS.isub X18.here hx rfl (hb hby d1_16) rfl k) ?_
    have hj0 := own_subn Pn (k := (1 : Int32)) (n := 1) (by decide) B1 (by omega)
    have Z93z : n0 ≤ h18.size := (Nat.le_trans Z19z E18.1)
    obtain ⟨cq94, kq94, q94a, q94b, q94c⟩ := isOf hZ e18 Ea18
    obtain ⟨_, _, ⟨T94, L94, k94, n94⟩, -, X94, ⟨Lc94, hQ94, l94, y94, z94⟩, st94⟩ := X18.virtualBack hx (y := (⟨"java/lang/String", "repeat", "(I)Ljava/lang/String;"⟩ : MethodName)) (z := (⟨"java/lang/String", "repeat", "(I)Ljava/lang/String;"⟩ : MethodName)) hown (mvT hZ (hw _ (List.mem_of_getElem? (i := 83) rfl))) (mvT hZ (hw _ (List.mem_of_getElem? (i := 84) rfl))) (notFace_of_selects (args := #[]) (mvT hZ (hw _ (List.mem_of_getElem? (i := 86) rfl)))) (mvT hZ (hw _ (List.mem_of_getElem? (i := 86) rfl))) (mvT hZ (hw _ (List.mem_of_getElem? (i := 85) rfl))) (by decide) (backOf (W := 1) (rm13_m l Z a0 hw [] sa18 (p0 - (1 : Int32)) sd18 own_lit3 (nn - 1) h18 n0 Z93z Ea18 Fc18 Fv18 Al18 hj0 (by omega) (by omega)) hZ (hw _ (List.mem_of_getElem? (i := 87) rfl)) (hw _ (List.mem_of_getElem? (i := 20) rfl)) (by decide) (by decide)) q94a q94c (g := (mkF m 17 #[.val (.int p0)] [(.int (p0 - (1 : Int32))), (.ref sa18), (.ref b1)])) rfl (by rw [hml]; rfl) (Steps.refl _) (argsL := [(.int (p0 - (1 : Int32)))]) (rest := [(.ref b1)]) (lenOf own_pd_21 rfl) rfl (by show 2 * 0 + _ ≤ _; exact Nat.le_of_eq rfl) (hb hby d1_17) (fun _ _ => ⟨rfl, e18, (by decide : 6 + 2 ≤ _), (by decide : 44 + 204 ≤ _)⟩)
    dsimp only [Pt.U, Pt.locs, Pt.cells, Pt.slots] at X94 l94 y94 z94 st94 hQ94
    subst l94 y94 z94
    obtain ⟨r94, rfl, Nq94, szr94, K94, Ex94, Fc94, nb94, ff94, sz94, nrb94, Fv94, An94, ag94⟩ := hQ94
    have N94 := Fr.app N17 Nq94
    have E95_b1 : Exa Z h18 b1 "java/lang/StringBuilder" := (Ex17.ext E18)
    have ne96_b1_r94 : b1 ≠ r94 := Nat.ne_of_lt (Nat.lt_of_lt_of_le E95_b1.lt szr94)
    have E97_nb4 : Exa Z h18 nb4 "[B" := (Xn17.ext E18)
    have ne98_nb4_r94 : nb4 ≠ r94 := Nat.ne_of_lt (Nat.lt_of_lt_of_le E97_nb4.lt szr94)
    have ne99_sa18_r94 : sa18 ≠ r94 := Nat.ne_of_lt (Nat.lt_of_lt_of_le Ea18.lt szr94)
    have E100_sa7 : Exa Z h18 sa7 "java/lang/String" := ((Ea7.keep K17).ext E18)
    have ne101_sa7_r94 : sa7 ≠ r94 := Nat.ne_of_lt (Nat.lt_of_lt_of_le E100_sa7.lt szr94)
    have ne102_sd18_r94 : sd18 ≠ r94 := Nat.ne_of_lt (Nat.lt_of_lt_of_le Al18.lt szr94)
    have A103_sd7 : own_Av Z h18 sd7 .byte 1 own_lit1 := ((Al7.keep K17 (ninS (Ne.symm nlu.2) (ninS (Ne.symm nlo.2) nin0))).ext E18)
    have ne104_sd7_r94 : sd7 ≠ r94 := Nat.ne_of_lt (Nat.lt_of_lt_of_le A103_sd7.lt szr94)
    have S105s : h0.size ≤ h18.size ∧ True := ⟨(Nat.le_trans (Nat.le_trans (Nat.le_trans (Nat.le_trans S6s.1 K4.1) E7.1) K17.1) E18.1), trivial⟩
    have sz_r94 : h0.size ≤ r94 := (Nat.le_trans S105s.1 szr94)
    have ne106_b1_nb94 : b1 ≠ nb94 := Nat.ne_of_lt (Nat.lt_of_lt_of_le E95_b1.lt sz94)
    have ne107_nb4_nb94 : nb4 ≠ nb94 := Nat.ne_of_lt (Nat.lt_of_lt_of_le E97_nb4.lt sz94)
    have ne108_sa18_nb94 : sa18 ≠ nb94 := Nat.ne_of_lt (Nat.lt_of_lt_of_le Ea18.lt sz94)
    have ne109_sa7_nb94 : sa7 ≠ nb94 := Nat.ne_of_lt (Nat.lt_of_lt_of_le E100_sa7.lt sz94)
    have ne110_sd18_nb94 : sd18 ≠ nb94 := Nat.ne_of_lt (Nat.lt_of_lt_of_le Al18.lt sz94)
    have ne111_sd7_nb94 : sd7 ≠ nb94 := Nat.ne_of_lt (Nat.lt_of_lt_of_le A103_sd7.lt sz94)
    have S112s : h0.size ≤ h18.size ∧ True := ⟨S105s.1, trivial⟩
    have sz_nb94 : h0.size ≤ nb94 := (Nat.le_trans S112s.1 sz94)
    have g_r94 : n0 ≤ r94 := Nat.le_trans Z93z szr94
    have g_nb94 : n0 ≤ nb94 := Nat.le_trans Z93z sz94
    refine go _ (T94.setTop (mkF m 20 #[.val (.int p0)] [(.ref r94), (.ref b1)])) (fun t k => st94.trans k) ?_
    have E113_b1 : Exa Z T94.heap b1 "java/lang/StringBuilder" := (E95_b1.keep K94)
    have F114_coder_b1 : Fld Z T94.heap b1 "java/lang/AbstractStringBuilder" "coder" "B" (.int (0 : Int32)) := ((Fc17.ext E18).keep K94 nin0)
    have F115_value_b1 : Fld Z T94.heap b1 "java/lang/AbstractStringBuilder" "value" "[B" (.ref nb4) := ((Fv17.ext E18).keep K94 nin0)
    have A116_nb4 : own_Av Z T94.heap nb4 .byte 16 (own_app (fun _ => (.int 0)) 0 1 own_lit1) := ((An17.ext E18).keep K94 nin0)
    have E117_nb4 : Exa Z T94.heap nb4 "[B" := (E97_nb4.keep K94)
    have F118_count_b1 : Fld Z T94.heap b1 "java/lang/AbstractStringBuilder" "count" "I" (.int ((0 : Int32) + (Int32.ofNat 1))) := ((Fn17.ext E18).keep K94 nin0)
    have Z119z : n0 ≤ T94.heap.size := (Nat.le_trans Z93z K94.1)
    have PS120 : own_St Z n0 T94.heap := PS.keep (((((((Keep.refl h0 []).ext E1).trans K4 (allS (Or.inr sz_b1) all0)).ext E7).trans K17 (allS (Or.inr sz_b1) (allS (Or.inr sz_nb4) all0))).ext E18).trans K94 all0) own_ge0
    obtain ⟨cq121, kq121, q121a, q121b, q121c⟩ := isOf hZ rfl E113_b1
    obtain ⟨_, _, ⟨T121, L121, k121, n121⟩, -, X121, ⟨Lc121, hQ121, l121, y121, z121⟩, st121⟩ := X94.virtualBack hx (y := (⟨"java/lang/StringBuilder", "append", "(Ljava/lang/String;)Ljava/lang/StringBuilder;"⟩ : MethodName)) (z := (⟨"java/lang/StringBuilder", "append", "(Ljava/lang/String;)Ljava/lang/StringBuilder;"⟩ : MethodName)) hown (mvT hZ (hw _ (List.mem_of_getElem? (i := 32) rfl))) (mvT hZ (hw _ (List.mem_of_getElem? (i := 33) rfl))) (notFace_of_selects (args := #[]) (mvT hZ (hw _ (List.mem_of_getElem? (i := 35) rfl)))) (mvT hZ (hw _ (List.mem_of_getElem? (i := 35) rfl))) (mvT hZ (hw _ (List.mem_of_getElem? (i := 34) rfl))) (by decide) (backOf (W := 0) (rm5_a l Z a0 hw [] b1 r94 nb4 (own_app (fun _ => (.int 0)) 0 1 own_lit1) ((0 : Int32) + (Int32.ofNat 1)) 1 nb94 (3 * (nn - 1)) ff94 T94.heap n0 Z119z PS120 E113_b1 F114_coder_b1 F115_value_b1 A116_nb4 E117_nb4 F118_count_b1 Ex94 Fc94 Fv94 An94 (by decide) (by omega) (by omega) g_b1 g_nb4 ne96_b1_r94 ne5_b1_nb4 ne106_b1_nb94 (Ne.symm ne98_nb4_r94) ne107_nb4_nb94) hZ (hw _ (List.mem_of_getElem? (i := 36) rfl)) (hw _ (List.mem_of_getElem? (i := 6) rfl)) (by decide) (by decide)) q121a q121c (g := (mkF m 20 #[.val (.int p0)] [(.ref r94), (.ref b1)])) rfl (by rw [hml]; rfl) (Steps.refl _) (argsL := [(.ref r94)]) (rest := []) (lenOf own_pd_20 rfl) rfl (by show 2 * 0 + _ ≤ _; exact Nat.le_of_eq rfl) (hb hby d1_20) (fun _ _ => ⟨rfl, rfl, (by decide : 8 + 0 ≤ _), (by decide : 248 + 0 ≤ _)⟩)
    dsimp only [Pt.U, Pt.locs, Pt.cells, Pt.slots] at X121 l121 y121 z121 st121 hQ121
    subst l121 y121 z121
    obtain ⟨rfl, Nq121, K121, Ex121, Fc121, Fn121, Fv121, Xn121, An121⟩ := hQ121
    have N121 := Fr.app N94 Nq121
    refine go _ (T121.setTop (mkF m 23 #[.val (.int p0)] [(.ref b1)])) (fun t k => st121.trans k) ?_
    have Z122z : n0 ≤ T121.heap.size := (Nat.le_trans Z119z K121.1)
    have PS123 : own_St Z n0 T121.heap := PS.keep ((((((((Keep.refl h0 []).ext E1).trans K4 (allS (Or.inr sz_b1) all0)).ext E7).trans K17 (allS (Or.inr sz_b1) (allS (Or.inr sz_nb4) all0))).ext E18).trans K94 all0).trans K121 (allS (Or.inr sz_b1) (allS (Or.inr sz_nb4) all0))) own_ge0
    obtain ⟨cq124, kq124, q124a, q124b, q124c⟩ := isOf hZ rfl Ex121
    obtain ⟨_, _, ⟨T124, L124, k124, n124⟩, -, X124, ⟨Lc124, hQ124, l124, y124, z124⟩, st124⟩ := X121.virtualBack hx (y := (⟨"java/lang/StringBuilder", "toString", "()Ljava/lang/String;"⟩ : MethodName)) (z := (⟨"java/lang/StringBuilder", "toString", "()Ljava/lang/String;"⟩ : MethodName)) hown (mvT hZ (hw _ (List.mem_of_getElem? (i := 89) rfl))) (mvT hZ (hw _ (List.mem_of_getElem? (i := 90) rfl))) (notFace_of_selects (args := #[]) (mvT hZ (hw _ (List.mem_of_getElem? (i := 92) rfl)))) (mvT hZ (hw _ (List.mem_of_getElem? (i := 92) rfl))) (mvT hZ (hw _ (List.mem_of_getElem? (i := 91) rfl))) (by decide) (backOf (W := 0) (rm14 l Z a0 hw [] b1 nb4 16 (own_app (own_app (fun _ => (.int 0)) 0 1 own_lit1) 1 (3 * (nn - 1)) ff94) (((0 : Int32) + (Int32.ofNat 1)) + (Int32.ofNat (3 * (nn - 1)))) (1 + (3 * (nn - 1))) T121.heap n0 Z122z PS123 Ex121 Fc121 Fv121 An121 Xn121 Fn121 (own_addn (i := 1) (n := (3 * (nn - 1))) (by decide) (own_n32 (by omega)) (by omega)) (by omega) (by omega)) hZ (hw _ (List.mem_of_getElem? (i := 93) rfl)) (hw _ (List.mem_of_getElem? (i := 6) rfl)) (by decide) (by decide)) q124a q124c (g := (mkF m 23 #[.val (.int p0)] [(.ref b1)])) rfl (by rw [hml]; rfl) (Steps.refl _) (argsL := []) (rest := []) (lenOf own_pd_22 rfl) rfl (by show 2 * 0 + _ ≤ _; exact Nat.le_of_eq rfl) (hb hby d1_23) (fun _ _ => ⟨rfl, rfl, (by decide : 8 + 2 ≤ _), (by decide : 248 + 204 ≤ _)⟩)
    dsimp only [Pt.U, Pt.locs, Pt.cells, Pt.slots] at X124 l124 y124 z124 st124 hQ124
    subst l124 y124 z124
    obtain ⟨r124, rfl, Nq124, szr124, K124, Ex124, Fc124, nb124, ff124, sz124, nrb124, Fv124, An124, ag124⟩ := hQ124
    have N124 := Fr.app N121 Nq124
    have ne125_b1_r124 : b1 ≠ r124 := Nat.ne_of_lt (Nat.lt_of_lt_of_le Ex121.lt szr124)
    have ne126_nb4_r124 : nb4 ≠ r124 := Nat.ne_of_lt (Nat.lt_of_lt_of_le Xn121.lt szr124)
    have A127_nb94 : own_Av Z T121.heap nb94 .byte (3 * (nn - 1)) ff94 := (An94.keep K121 (ninS (Ne.symm ne106_b1_nb94) (ninS (Ne.symm ne107_nb4_nb94) nin0)))
    have ne128_nb94_r124 : nb94 ≠ r124 := Nat.ne_of_lt (Nat.lt_of_lt_of_le A127_nb94.lt szr124)
    have E129_r94 : Exa Z T121.heap r94 "java/lang/String" := (Ex94.keep K121)
    have ne130_r94_r124 : r94 ≠ r124 := Nat.ne_of_lt (Nat.lt_of_lt_of_le E129_r94.lt szr124)
    have E131_sa18 : Exa Z T121.heap sa18 "java/lang/String" := ((Ea18.keep K94).keep K121)
    have ne132_sa18_r124 : sa18 ≠ r124 := Nat.ne_of_lt (Nat.lt_of_lt_of_le E131_sa18.lt szr124)
    have E133_sa7 : Exa Z T121.heap sa7 "java/lang/String" := ((E100_sa7.keep K94).keep K121)
    have ne134_sa7_r124 : sa7 ≠ r124 := Nat.ne_of_lt (Nat.lt_of_lt_of_le E133_sa7.lt szr124)
    have A135_sd18 : own_Av Z T121.heap sd18 .byte 3 own_lit3 := ((Al18.keep K94 nin0).keep K121 (ninS (Ne.symm nmu.2) (ninS (Ne.symm nmo.2) nin0)))
    have ne136_sd18_r124 : sd18 ≠ r124 := Nat.ne_of_lt (Nat.lt_of_lt_of_le A135_sd18.lt szr124)
    have A137_sd7 : own_Av Z T121.heap sd7 .byte 1 own_lit1 := ((A103_sd7.keep K94 nin0).keep K121 (ninS (Ne.symm nlu.2) (ninS (Ne.symm nlo.2) nin0)))
    have ne138_sd7_r124 : sd7 ≠ r124 := Nat.ne_of_lt (Nat.lt_of_lt_of_le A137_sd7.lt szr124)
    have S139s : h0.size ≤ T121.heap.size ∧ True := ⟨(Nat.le_trans (Nat.le_trans S112s.1 K94.1) K121.1), trivial⟩
    have sz_r124 : h0.size ≤ r124 := (Nat.le_trans S139s.1 szr124)
    have ne140_b1_nb124 : b1 ≠ nb124 := Nat.ne_of_lt (Nat.lt_of_lt_of_le Ex121.lt sz124)
    have ne141_nb4_nb124 : nb4 ≠ nb124 := Nat.ne_of_lt (Nat.lt_of_lt_of_le Xn121.lt sz124)
    have ne142_nb94_nb124 : nb94 ≠ nb124 := Nat.ne_of_lt (Nat.lt_of_lt_of_le A127_nb94.lt sz124)
    have ne143_r94_nb124 : r94 ≠ nb124 := Nat.ne_of_lt (Nat.lt_of_lt_of_le E129_r94.lt sz124)
    have ne144_sa18_nb124 : sa18 ≠ nb124 := Nat.ne_of_lt (Nat.lt_of_lt_of_le E131_sa18.lt sz124)
    have ne145_sa7_nb124 : sa7 ≠ nb124 := Nat.ne_of_lt (Nat.lt_of_lt_of_le E133_sa7.lt sz124)
    have ne146_sd18_nb124 : sd18 ≠ nb124 := Nat.ne_of_lt (Nat.lt_of_lt_of_le A135_sd18.lt sz124)
    have ne147_sd7_nb124 : sd7 ≠ nb124 := Nat.ne_of_lt (Nat.lt_of_lt_of_le A137_sd7.lt sz124)
    have S148s : h0.size ≤ T121.heap.size ∧ True := ⟨S139s.1, trivial⟩
    have sz_nb124 : h0.size ≤ nb124 := (Nat.le_trans S148s.1 sz124)
    have g_r124 : n0 ≤ r124 := Nat.le_trans Z122z szr124
    have g_nb124 : n0 ≤ nb124 := Nat.le_trans Z122z sz124
    refine go _ (T124.setTop (mkF m 26 #[.val (.int p0)] [(.ref r124)])) (fun t k => st124.trans k) ?_
    have hmm : 1 + (3 * (nn - 1)) = 3 * nn - 2 := by omega
    have htx := own_txt ag124 (own_app1 _) ag94
    have Afin := An124
    rw [hmm] at htx Afin
    have hk := (Nat.le_trans (Nat.le_trans (Nat.le_trans hk K94.1) K121.1) K124.1)
    refine fin (some (.ref r124)) (mkF m 26 #[.val (.int p0)] [(.ref r124)]) X124 hS hk (fun h => by cases h) (fun fs hr => retOut X124 hx (t := (.object "java/lang/String")) hret rfl (Or.inr (Or.inr (Or.inr (Or.inr ⟨rfl, rfl, rfl⟩)))) (hb hby d1_26) hr) ?_ (by decide) (by decide)
    exact ⟨r124, rfl, N124, sz_r124, (((((((((Keep.refl h0 []).ext E1).trans K4 (allS (Or.inr sz_b1) all0)).ext E7).trans K17 (allS (Or.inr sz_b1) (allS (Or.inr sz_nb4) all0))).ext E18).trans K94 all0).trans K121 (allS (Or.inr sz_b1) (allS (Or.inr sz_nb4) all0))).trans K124 all0), Ex124, Fc124, nb124, _, sz_nb124, nrb124, Fv124, Afin, htx⟩
  · refine go _ (T18.setTop (mkF m 15 #[.val (.int p0)] [(.int p0), (.ref sa18), (.ref b1)])) (fun t k => XS.iloadN X18.here hx rfl (hb hby d1_14) rfl k) ?_
    refine go _ (T18.setTop (mkF m 16 #[.val (.int p0)] [(.int (1 : Int32)), (.int p0), (.ref sa18), (.ref b1)])) (fun t k => XS.iconst X18.here hx rfl (hb hby d1_15) k) ?_
    refine go _ (T18.setTop (mkF m 17 #[.val (.int p0)] [(.int (p0 - (1 : Int32))), (.ref sa18), (.ref b1)])) (fun t k => XS.isub X18.here hx rfl (hb hby d1_16) rfl k) ?_
    have hj0 := own_subn Pn (k := (1 : Int32)) (n := 1) (by decide) B1 (by omega)
    have Z149z : n0 ≤ h18.size := (Nat.le_trans Z19z E18.1)
    obtain ⟨cq150, kq150, q150a, q150b, q150c⟩ := isOf hZ e18 Ea18
    obtain ⟨_, _, ⟨T150, L150, k150, n150⟩, -, X150, ⟨Lc150, hQ150, l150, y150, z150⟩, st150⟩ := X18.virtualBack hx (y := (⟨"java/lang/String", "repeat", "(I)Ljava/lang/String;"⟩ : MethodName)) (z := (⟨"java/lang/String", "repeat", "(I)Ljava/lang/String;"⟩ : MethodName)) hown (mvT hZ (hw _ (List.mem_of_getElem? (i := 83) rfl))) (mvT hZ (hw _ (List.mem_of_getElem? (i := 84) rfl))) (notFace_of_selects (args := #[]) (mvT hZ (hw _ (List.mem_of_getElem? (i := 86) rfl)))) (mvT hZ (hw _ (List.mem_of_getElem? (i := 86) rfl))) (mvT hZ (hw _ (List.mem_of_getElem? (i := 85) rfl))) (by decide) (backOf (W := 1) (rm13_m l Z a0 hw [] sa18 (p0 - (1 : Int32)) sd18 own_lit3 (nn - 1) h18 n0 Z149z Ea18 Fc18 Fv18 Al18 hj0 (by omega) (by omega)) hZ (hw _ (List.mem_of_getElem? (i := 87) rfl)) (hw _ (List.mem_of_getElem? (i := 20) rfl)) (by decide) (by decide)) q150a q150c (g := (mkF m 17 #[.val (.int p0)] [(.int (p0 - (1 : Int32))), (.ref sa18), (.ref b1)])) rfl (by rw [hml]; rfl) (Steps.refl _) (argsL := [(.int (p0 - (1 : Int32)))]) (rest := [(.ref b1)]) (lenOf own_pd_21 rfl) rfl (by show 2 * 0 + _ ≤ _; exact Nat.le_of_eq rfl) (hb hby d1_17) (fun _ _ => ⟨rfl, e18, (by decide : 6 + 2 ≤ _), (by decide : 44 + 204 ≤ _)⟩)
    dsimp only [Pt.U, Pt.locs, Pt.cells, Pt.slots] at X150 l150 y150 z150 st150 hQ150
    subst l150 y150 z150
    obtain ⟨r150, rfl, Nq150, szr150, K150, Ex150, Fc150, nb150, ff150, sz150, nrb150, Fv150, An150, ag150⟩ := hQ150
    have N150 := Fr.app N17 Nq150
    have E151_b1 : Exa Z h18 b1 "java/lang/StringBuilder" := (Ex17.ext E18)
    have ne152_b1_r150 : b1 ≠ r150 := Nat.ne_of_lt (Nat.lt_of_lt_of_le E151_b1.lt szr150)
    have E153_nb4 : Exa Z h18 nb4 "[B" := (Xn17.ext E18)
    have ne154_nb4_r150 : nb4 ≠ r150 := Nat.ne_of_lt (Nat.lt_of_lt_of_le E153_nb4.lt szr150)
    have ne155_sa18_r150 : sa18 ≠ r150 := Nat.ne_of_lt (Nat.lt_of_lt_of_le Ea18.lt szr150)
    have E156_sa7 : Exa Z h18 sa7 "java/lang/String" := ((Ea7.keep K17).ext E18)
    have ne157_sa7_r150 : sa7 ≠ r150 := Nat.ne_of_lt (Nat.lt_of_lt_of_le E156_sa7.lt szr150)
    have ne158_sd18_r150 : sd18 ≠ r150 := Nat.ne_of_lt (Nat.lt_of_lt_of_le Al18.lt szr150)
    have A159_sd7 : own_Av Z h18 sd7 .byte 1 own_lit1 := ((Al7.keep K17 (ninS (Ne.symm nlu.2) (ninS (Ne.symm nlo.2) nin0))).ext E18)
    have ne160_sd7_r150 : sd7 ≠ r150 := Nat.ne_of_lt (Nat.lt_of_lt_of_le A159_sd7.lt szr150)
    have S161s : h0.size ≤ h18.size ∧ True := ⟨(Nat.le_trans (Nat.le_trans (Nat.le_trans (Nat.le_trans S6s.1 K4.1) E7.1) K17.1) E18.1), trivial⟩
    have sz_r150 : h0.size ≤ r150 := (Nat.le_trans S161s.1 szr150)
    have ne162_b1_nb150 : b1 ≠ nb150 := Nat.ne_of_lt (Nat.lt_of_lt_of_le E151_b1.lt sz150)
    have ne163_nb4_nb150 : nb4 ≠ nb150 := Nat.ne_of_lt (Nat.lt_of_lt_of_le E153_nb4.lt sz150)
    have ne164_sa18_nb150 : sa18 ≠ nb150 := Nat.ne_of_lt (Nat.lt_of_lt_of_le Ea18.lt sz150)
    have ne165_sa7_nb150 : sa7 ≠ nb150 := Nat.ne_of_lt (Nat.lt_of_lt_of_le E156_sa7.lt sz150)
    have ne166_sd18_nb150 : sd18 ≠ nb150 := Nat.ne_of_lt (Nat.lt_of_lt_of_le Al18.lt sz150)
    have ne167_sd7_nb150 : sd7 ≠ nb150 := Nat.ne_of_lt (Nat.lt_of_lt_of_le A159_sd7.lt sz150)
    have S168s : h0.size ≤ h18.size ∧ True := ⟨S161s.1, trivial⟩
    have sz_nb150 : h0.size ≤ nb150 := (Nat.le_trans S168s.1 sz150)
    have g_r150 : n0 ≤ r150 := Nat.le_trans Z149z szr150
    have g_nb150 : n0 ≤ nb150 := Nat.le_trans Z149z sz150
    refine go _ (T150.setTop (mkF m 20 #[.val (.int p0)] [(.ref r150), (.ref b1)])) (fun t k => st150.trans k) ?_
    have E169_b1 : Exa Z T150.heap b1 "java/lang/StringBuilder" := (E151_b1.keep K150)
    have F170_coder_b1 : Fld Z T150.heap b1 "java/lang/AbstractStringBuilder" "coder" "B" (.int (0 : Int32)) := ((Fc17.ext E18).keep K150 nin0)
    have F171_value_b1 : Fld Z T150.heap b1 "java/lang/AbstractStringBuilder" "value" "[B" (.ref nb4) := ((Fv17.ext E18).keep K150 nin0)
    have A172_nb4 : own_Av Z T150.heap nb4 .byte 16 (own_app (fun _ => (.int 0)) 0 1 own_lit1) := ((An17.ext E18).keep K150 nin0)
    have E173_nb4 : Exa Z T150.heap nb4 "[B" := (E153_nb4.keep K150)
    have F174_count_b1 : Fld Z T150.heap b1 "java/lang/AbstractStringBuilder" "count" "I" (.int ((0 : Int32) + (Int32.ofNat 1))) := ((Fn17.ext E18).keep K150 nin0)
    have Z175z : n0 ≤ T150.heap.size := (Nat.le_trans Z149z K150.1)
    have PS176 : own_St Z n0 T150.heap := PS.keep (((((((Keep.refl h0 []).ext E1).trans K4 (allS (Or.inr sz_b1) all0)).ext E7).trans K17 (allS (Or.inr sz_b1) (allS (Or.inr sz_nb4) all0))).ext E18).trans K150 all0) own_ge0
    obtain ⟨cq177, kq177, q177a, q177b, q177c⟩ := isOf hZ rfl E169_b1
    obtain ⟨_, _, ⟨T177, L177, k177, n177⟩, -, X177, ⟨Lc177, hQ177, l177, y177, z177⟩, st177⟩ := X150.virtualBack hx (y := (⟨"java/lang/StringBuilder", "append", "(Ljava/lang/String;)Ljava/lang/StringBuilder;"⟩ : MethodName)) (z := (⟨"java/lang/StringBuilder", "append", "(Ljava/lang/String;)Ljava/lang/StringBuilder;"⟩ : MethodName)) hown (mvT hZ (hw _ (List.mem_of_getElem? (i := 32) rfl))) (mvT hZ (hw _ (List.mem_of_getElem? (i := 33) rfl))) (notFace_of_selects (args := #[]) (mvT hZ (hw _ (List.mem_of_getElem? (i := 35) rfl)))) (mvT hZ (hw _ (List.mem_of_getElem? (i := 35) rfl))) (mvT hZ (hw _ (List.mem_of_getElem? (i := 34) rfl))) (by decide) (backOf (W := 0) (rm5_b l Z a0 hw [] b1 r150 nb4 (own_app (fun _ => (.int 0)) 0 1 own_lit1) ((0 : Int32) + (Int32.ofNat 1)) 1 nb150 (3 * (nn - 1)) ff150 T150.heap n0 Z175z PS176 E169_b1 F170_coder_b1 F171_value_b1 A172_nb4 E173_nb4 F174_count_b1 Ex150 Fc150 Fv150 An150 (by decide) (by omega) (by omega) g_b1 g_nb4 ne152_b1_r150 ne5_b1_nb4 ne162_b1_nb150 (Ne.symm ne154_nb4_r150) ne163_nb4_nb150) hZ (hw _ (List.mem_of_getElem? (i := 36) rfl)) (hw _ (List.mem_of_getElem? (i := 6) rfl)) (by decide) (by decide)) q177a q177c (g := (mkF m 20 #[.val (.int p0)] [(.ref r150), (.ref b1)])) rfl (by rw [hml]; rfl) (Steps.refl _) (argsL := [(.ref r150)]) (rest := []) (lenOf own_pd_20 rfl) rfl (by show 2 * 0 + _ ≤ _; exact Nat.le_of_eq rfl) (hb hby d1_20) (fun _ _ => ⟨rfl, rfl, (by decide : 8 + 1 ≤ _), (by decide : 248 + 200 ≤ _)⟩)
    dsimp only [Pt.U, Pt.locs, Pt.cells, Pt.slots] at X177 l177 y177 z177 st177 hQ177
    subst l177 y177 z177
    obtain ⟨rfl, Nq177, K177, Ex177, Fc177, Fn177, nb177, ff177, sz177, Fv177, Xn177, An177, ag177⟩ := hQ177
    have N177 := Fr.app N150 Nq177
    have ne178_b1_nb177 : b1 ≠ nb177 := Nat.ne_of_lt (Nat.lt_of_lt_of_le E169_b1.lt sz177)
    have ne179_nb150_nb177 : nb150 ≠ nb177 := Nat.ne_of_lt (Nat.lt_of_lt_of_le An150.lt sz177)
    have ne180_nb4_nb177 : nb4 ≠ nb177 := Nat.ne_of_lt (Nat.lt_of_lt_of_le E173_nb4.lt sz177)
    have ne181_r150_nb177 : r150 ≠ nb177 := Nat.ne_of_lt (Nat.lt_of_lt_of_le Ex150.lt sz177)
    have E182_sa18 : Exa Z T150.heap sa18 "java/lang/String" := (Ea18.keep K150)
    have ne183_sa18_nb177 : sa18 ≠ nb177 := Nat.ne_of_lt (Nat.lt_of_lt_of_le E182_sa18.lt sz177)
    have E184_sa7 : Exa Z T150.heap sa7 "java/lang/String" := (E156_sa7.keep K150)
    have ne185_sa7_nb177 : sa7 ≠ nb177 := Nat.ne_of_lt (Nat.lt_of_lt_of_le E184_sa7.lt sz177)
    have A186_sd18 : own_Av Z T150.heap sd18 .byte 3 own_lit3 := (Al18.keep K150 nin0)
    have ne187_sd18_nb177 : sd18 ≠ nb177 := Nat.ne_of_lt (Nat.lt_of_lt_of_le A186_sd18.lt sz177)
    have A188_sd7 : own_Av Z T150.heap sd7 .byte 1 own_lit1 := (A159_sd7.keep K150 nin0)
    have ne189_sd7_nb177 : sd7 ≠ nb177 := Nat.ne_of_lt (Nat.lt_of_lt_of_le A188_sd7.lt sz177)
    have S190s : h0.size ≤ T150.heap.size ∧ True := ⟨(Nat.le_trans S168s.1 K150.1), trivial⟩
    have sz_nb177 : h0.size ≤ nb177 := (Nat.le_trans S190s.1 sz177)
    have g_nb177 : n0 ≤ nb177 := Nat.le_trans Z175z sz177
    refine go _ (T177.setTop (mkF m 23 #[.val (.int p0)] [(.ref b1)])) (fun t k => st177.trans k) ?_
    have Z191z : n0 ≤ T177.heap.size := (Nat.le_trans Z175z K177.1)
    have PS192 : own_St Z n0 T177.heap := PS.keep ((((((((Keep.refl h0 []).ext E1).trans K4 (allS (Or.inr sz_b1) all0)).ext E7).trans K17 (allS (Or.inr sz_b1) (allS (Or.inr sz_nb4) all0))).ext E18).trans K150 all0).trans K177 (allS (Or.inr sz_b1) all0)) own_ge0
    obtain ⟨cq193, kq193, q193a, q193b, q193c⟩ := isOf hZ rfl Ex177
    obtain ⟨_, _, ⟨T193, L193, k193, n193⟩, -, X193, ⟨Lc193, hQ193, l193, y193, z193⟩, st193⟩ := X177.virtualBack hx (y := (⟨"java/lang/StringBuilder", "toString", "()Ljava/lang/String;"⟩ : MethodName)) (z := (⟨"java/lang/StringBuilder", "toString", "()Ljava/lang/String;"⟩ : MethodName)) hown (mvT hZ (hw _ (List.mem_of_getElem? (i := 89) rfl))) (mvT hZ (hw _ (List.mem_of_getElem? (i := 90) rfl))) (notFace_of_selects (args := #[]) (mvT hZ (hw _ (List.mem_of_getElem? (i := 92) rfl)))) (mvT hZ (hw _ (List.mem_of_getElem? (i := 92) rfl))) (mvT hZ (hw _ (List.mem_of_getElem? (i := 91) rfl))) (by decide) (backOf (W := 0) (rm14 l Z a0 hw [] b1 nb177 (max (1 + (3 * (nn - 1))) 34) (own_app ff177 1 (3 * (nn - 1)) ff150) (((0 : Int32) + (Int32.ofNat 1)) + (Int32.ofNat (3 * (nn - 1)))) (1 + (3 * (nn - 1))) T177.heap n0 Z191z PS192 Ex177 Fc177 Fv177 An177 Xn177 Fn177 (own_addn (i := 1) (n := (3 * (nn - 1))) (by decide) (own_n32 (by omega)) (by omega)) (by omega) (by omega)) hZ (hw _ (List.mem_of_getElem? (i := 93) rfl)) (hw _ (List.mem_of_getElem? (i := 6) rfl)) (by decide) (by decide)) q193a q193c (g := (mkF m 23 #[.val (.int p0)] [(.ref b1)])) rfl (by rw [hml]; rfl) (Steps.refl _) (argsL := []) (rest := []) (lenOf own_pd_22 rfl) rfl (by show 2 * 0 + _ ≤ _; exact Nat.le_of_eq rfl) (hb hby d1_23) (fun _ _ => ⟨rfl, rfl, (by decide : 9 + 2 ≤ _), (by decide : 448 + 204 ≤ _)⟩)
    dsimp only [Pt.U, Pt.locs, Pt.cells, Pt.slots] at X193 l193 y193 z193 st193 hQ193
    subst l193 y193 z193
    obtain ⟨r193, rfl, Nq193, szr193, K193, Ex193, Fc193, nb193, ff193, sz193, nrb193, Fv193, An193, ag193⟩ := hQ193
    have N193 := Fr.app N177 Nq193
    have ne194_b1_r193 : b1 ≠ r193 := Nat.ne_of_lt (Nat.lt_of_lt_of_le Ex177.lt szr193)
    have A195_nb150 : own_Av Z T177.heap nb150 .byte (3 * (nn - 1)) ff150 := (An150.keep K177 (ninS (Ne.symm ne162_b1_nb150) nin0))
    have ne196_nb150_r193 : nb150 ≠ r193 := Nat.ne_of_lt (Nat.lt_of_lt_of_le A195_nb150.lt szr193)
    have ne197_nb177_r193 : nb177 ≠ r193 := Nat.ne_of_lt (Nat.lt_of_lt_of_le Xn177.lt szr193)
    have E198_nb4 : Exa Z T177.heap nb4 "[B" := (E173_nb4.keep K177)
    have ne199_nb4_r193 : nb4 ≠ r193 := Nat.ne_of_lt (Nat.lt_of_lt_of_le E198_nb4.lt szr193)
    have E200_r150 : Exa Z T177.heap r150 "java/lang/String" := (Ex150.keep K177)
    have ne201_r150_r193 : r150 ≠ r193 := Nat.ne_of_lt (Nat.lt_of_lt_of_le E200_r150.lt szr193)
    have E202_sa18 : Exa Z T177.heap sa18 "java/lang/String" := (E182_sa18.keep K177)
    have ne203_sa18_r193 : sa18 ≠ r193 := Nat.ne_of_lt (Nat.lt_of_lt_of_le E202_sa18.lt szr193)
    have E204_sa7 : Exa Z T177.heap sa7 "java/lang/String" := (E184_sa7.keep K177)
    have ne205_sa7_r193 : sa7 ≠ r193 := Nat.ne_of_lt (Nat.lt_of_lt_of_le E204_sa7.lt szr193)
    have A206_sd18 : own_Av Z T177.heap sd18 .byte 3 own_lit3 := (A186_sd18.keep K177 (ninS (Ne.symm nmu.2) nin0))
    have ne207_sd18_r193 : sd18 ≠ r193 := Nat.ne_of_lt (Nat.lt_of_lt_of_le A206_sd18.lt szr193)
    have A208_sd7 : own_Av Z T177.heap sd7 .byte 1 own_lit1 := (A188_sd7.keep K177 (ninS (Ne.symm nlu.2) nin0))
    have ne209_sd7_r193 : sd7 ≠ r193 := Nat.ne_of_lt (Nat.lt_of_lt_of_le A208_sd7.lt szr193)
    have S210s : h0.size ≤ T177.heap.size ∧ True := ⟨(Nat.le_trans S190s.1 K177.1), trivial⟩
    have sz_r193 : h0.size ≤ r193 := (Nat.le_trans S210s.1 szr193)
    have ne211_b1_nb193 : b1 ≠ nb193 := Nat.ne_of_lt (Nat.lt_of_lt_of_le Ex177.lt sz193)
    have ne212_nb150_nb193 : nb150 ≠ nb193 := Nat.ne_of_lt (Nat.lt_of_lt_of_le A195_nb150.lt sz193)
    have ne213_nb177_nb193 : nb177 ≠ nb193 := Nat.ne_of_lt (Nat.lt_of_lt_of_le Xn177.lt sz193)
    have ne214_nb4_nb193 : nb4 ≠ nb193 := Nat.ne_of_lt (Nat.lt_of_lt_of_le E198_nb4.lt sz193)
    have ne215_r150_nb193 : r150 ≠ nb193 := Nat.ne_of_lt (Nat.lt_of_lt_of_le E200_r150.lt sz193)
    have ne216_sa18_nb193 : sa18 ≠ nb193 := Nat.ne_of_lt (Nat.lt_of_lt_of_le E202_sa18.lt sz193)
    have ne217_sa7_nb193 : sa7 ≠ nb193 := Nat.ne_of_lt (Nat.lt_of_lt_of_le E204_sa7.lt sz193)
    have ne218_sd18_nb193 : sd18 ≠ nb193 := Nat.ne_of_lt (Nat.lt_of_lt_of_le A206_sd18.lt sz193)
    have ne219_sd7_nb193 : sd7 ≠ nb193 := Nat.ne_of_lt (Nat.lt_of_lt_of_le A208_sd7.lt sz193)
    have S220s : h0.size ≤ T177.heap.size ∧ True := ⟨S210s.1, trivial⟩
    have sz_nb193 : h0.size ≤ nb193 := (Nat.le_trans S220s.1 sz193)
    have g_r193 : n0 ≤ r193 := Nat.le_trans Z191z szr193
    have g_nb193 : n0 ≤ nb193 := Nat.le_trans Z191z sz193
    refine go _ (T193.setTop (mkF m 26 #[.val (.int p0)] [(.ref r193)])) (fun t k => st193.trans k) ?_
    have hmm : 1 + (3 * (nn - 1)) = 3 * nn - 2 := by omega
    have htx := own_txt ag193 ((ag177 0 (by decide)).trans (own_app1 _)) ag150
    have Afin := An193
    rw [hmm] at htx Afin
    have hk := (Nat.le_trans (Nat.le_trans (Nat.le_trans hk K150.1) K177.1) K193.1)
    refine fin (some (.ref r193)) (mkF m 26 #[.val (.int p0)] [(.ref r193)]) X193 hS hk (fun h => by cases h) (fun fs hr => retOut X193 hx (t := (.object "java/lang/String")) hret rfl (Or.inr (Or.inr (Or.inr (Or.inr ⟨rfl, rfl, rfl⟩)))) (hb hby d1_26) hr) ?_ (by decide) (by decide)
    exact ⟨r193, rfl, N193, sz_r193, (((((((((Keep.refl h0 []).ext E1).trans K4 (allS (Or.inr sz_b1) all0)).ext E7).trans K17 (allS (Or.inr sz_b1) (allS (Or.inr sz_nb4) all0))).ext E18).trans K150 all0).trans K177 (allS (Or.inr sz_b1) all0)).trans K193 all0), Ex193, Fc193, nb193, _, sz_nb193, nrb193, Fv193, Afin, htx⟩
theorem own_ef29_n (m : MethodId) (p0 : Int32) (p1 : Int32) : entryFrame m #[(.int p0), (.int p1), .null] 3 = mkF m 0 #[.val (.int p0), .val (.int p1), .val .null] [] := by first | (simp [entryFrame, mkF, argsToLocals, Value.category]; done) | rfl
theorem own_pn29 : plainName "jdk/internal/util/Preconditions" = true := by first | (simp [plainName, overriddenIn]; done) | decide +kernel
theorem d29_0 : decode jdk_41_method_11_code 0 = .ok (.iload_n 0, 1) := by decide +kernel
theorem d29_1 : decode jdk_41_method_11_code 1 = .ok (.ifCond .lt 8, 3) := by decide +kernel
theorem d29_4 : decode jdk_41_method_11_code 4 = .ok (.iload_n 0, 1) := by decide +kernel
theorem d29_5 : decode jdk_41_method_11_code 5 = .ok (.iload_n 1, 1) := by decide +kernel
theorem d29_6 : decode jdk_41_method_11_code 6 = .ok (.if_icmp .lt 10, 3) := by decide +kernel
theorem d29_16 : decode jdk_41_method_11_code 16 = .ok (.iload_n 0, 1) := by decide +kernel
theorem d29_17 : decode jdk_41_method_11_code 17 = .ok (.ireturn, 1) := by decide +kernel
def own_Q29_n (Z : State) (p0 : Int32) (p1 : Int32) (h0 : Heap) (n0 : Nat) (v : Option Value) (h : Heap) (L : List Loc) : Prop := v = some (.int p0) ∧ Fr n0 L ∧ h = h0
set_option maxRecDepth 65536 in
set_option maxHeartbeats 40000000 in
theorem rm29_n (l : Launch) (Z : State) (a0 : Array Value) (hw : ∀ d ∈ tables_1, d.before a0 Z = true) (ws : List Jvm.Cond) (p0 : Int32) (p1 : Int32) (h0 : Heap) (n0 : Nat) (Z0 : n0 ≤ h0.size) (Ha : ¬ (p0 < (0 : Int32))) (Hb : p0 < p1) :
    MetFree l (⟨"jdk/internal/util/Preconditions", "checkIndex", "(IILjava/util/function/BiFunction;)I"⟩ : MethodName) (head1 (Jvm.Cond.code (⟨"jdk/internal/util/Preconditions", "checkIndex", "(IILjava/util/function/BiFunction;)I"⟩ : MethodName) jdk_41_method_11_code 3 (some .int) :: ws) ({ frames := 0, cells := 0, slots := 0, locals := 0 } : Room)) (fun a U => a = #[(.int p0), (.int p1), .null] ∧ Z.Warmed39 U.vm ∧ U.heap = h0) (fun _ _ _ _ _ => True) (fun _ U o U' => ∃ v L, o = .returned v ∧ own_Q29_n Z p0 p1 h0 n0 v U'.heap L ∧ FrameEnd U o U' L ({ frames := 0, cells := 0, slots := 0, locals := 0 } : Room).cells ({ frames := 0, cells := 0, slots := 0, locals := 0 } : Room).slots) := by
  refine own_metfree (Q := own_Q29_n Z p0 p1 h0 n0) (plainFor_of_name own_pn29) ?_
  intro p e s m below meth c s₁ X0 hx hby hml hret hown hnm hZ e0 G go fin
  have N0 := Fr.nil n0
  refine go _ (s₁.setTop (mkF m 0 #[.val (.int p0), .val (.int p1), .val .null] [])) (fun t k => castTop (own_ef29_n m p0 p1) k) ?_
  refine go _ (s₁.setTop (mkF m 1 #[.val (.int p0), .val (.int p1), .val .null] [(.int p0)])) (fun t k => XS.iloadN X0.here hx rfl (hb hby d29_0) rfl k) ?_
  have hc1 : ¬ (p0 < (0 : Int32)) := by exact Ha
  refine go _ (s₁.setTop (mkF m 4 #[.val (.int p0), .val (.int p1), .val .null] [])) (fun t k => XS.ifNo X0.here hx rfl (hb hby d29_1) rfl ((if0 _ _).trans (flt hc1).1) k) ?_
  refine go _ (s₁.setTop (mkF m 5 #[.val (.int p0), .val (.int p1), .val .null] [(.int p0)])) (fun t k => XS.iloadN X0.here hx rfl (hb hby d29_4) rfl k) ?_
  refine go _ (s₁.setTop (mkF m 6 #[.val (.int p0), .val (.int p1), .val .null] [(.int p1), (.int p0)])) (fun t k => XS.iloadN X0.here hx rfl (hb hby d29_5) rfl k) ?_
  have hc6 : p0 < p1 := by exact Hb
  refine go _ (s₁.setTop (mkF m 16 #[.val (.int p0), .val (.int p1), .val .null] [])) (fun t k => XS.icmpYes X0.here hx rfl (pc0 := 6) (pc' := 16) rfl (hb hby d29_6) rfl (tlt hc6).1 (by decide) (by decide) k) ?_
  refine go _ (s₁.setTop (mkF m 17 #[.val (.int p0), .val (.int p1), .val .null] [(.int p0)])) (fun t k => XS.iloadN X0.here hx rfl (hb hby d29_16) rfl k) ?_
  refine fin (some (.int p0)) (mkF m 17 #[.val (.int p0), .val (.int p1), .val .null] [(.int p0)]) X0 (fun h => by cases h) (fun fs hr => retOut X0 hx (t := .int) hret rfl (Or.inl ⟨rfl, by simp, _, rfl⟩) (hb hby d29_17) hr) ?_ (by decide) (by decide)
  try rw [e0]
  exact ⟨rfl, N0, rfl⟩
theorem own_ef29_r (m : MethodId) (p0 : Int32) (p1 : Int32) (o2 : Addr) : entryFrame m #[(.int p0), (.int p1), (.ref o2)] 3 = mkF m 0 #[.val (.int p0), .val (.int p1), .val (.ref o2)] [] := by first | (simp [entryFrame, mkF, argsToLocals, Value.category]; done) | rfl
def own_Q29_r (Z : State) (p0 : Int32) (p1 : Int32) (o2 : Addr) (h0 : Heap) (n0 : Nat) (v : Option Value) (h : Heap) (L : List Loc) : Prop := v = some (.int p0) ∧ Fr n0 L ∧ h = h0
set_option maxRecDepth 65536 in
set_option maxHeartbeats 40000000 in
theorem rm29_r (l : Launch) (Z : State) (a0 : Array Value) (hw : ∀ d ∈ tables_1, d.before a0 Z = true) (ws : List Jvm.Cond) (p0 : Int32) (p1 : Int32) (o2 : Addr) (h0 : Heap) (n0 : Nat) (Z0 : n0 ≤ h0.size) (Ha : ¬ (p0 < (0 : Int32))) (Hb : p0 < p1) :
    MetFree l (⟨"jdk/internal/util/Preconditions", "checkIndex", "(IILjava/util/function/BiFunction;)I"⟩ : MethodName) (head1 (Jvm.Cond.code (⟨"jdk/internal/util/Preconditions", "checkIndex", "(IILjava/util/function/BiFunction;)I"⟩ : MethodName) jdk_41_method_11_code 3 (some .int) :: ws) ({ frames := 0, cells := 0, slots := 0, locals := 0 } : Room)) (fun a U => a = #[(.int p0), (.int p1), (.ref o2)] ∧ Z.Warmed39 U.vm ∧ U.heap = h0) (fun _ _ _ _ _ => True) (fun _ U o U' => ∃ v L, o = .returned v ∧ own_Q29_r Z p0 p1 o2 h0 n0 v U'.heap L ∧ FrameEnd U o U' L ({ frames := 0, cells := 0, slots := 0, locals := 0 } : Room).cells ({ frames := 0, cells := 0, slots := 0, locals := 0 } : Room).slots) := by
  refine own_metfree (Q := own_Q29_r Z p0 p1 o2 h0 n0) (plainFor_of_name own_pn29) ?_
  intro p e s m below meth c s₁ X0 hx hby hml hret hown hnm hZ e0 G go fin
  have N0 := Fr.nil n0
  refine go _ (s₁.setTop (mkF m 0 #[.val (.int p0), .val (.int p1), .val (.ref o2)] [])) (fun t k => castTop (own_ef29_r m p0 p1 o2) k) ?_
  refine go _ (s₁.setTop (mkF m 1 #[.val (.int p0), .val (.int p1), .val (.ref o2)] [(.int p0)])) (fun t k => XS.iloadN X0.here hx rfl (hb hby d29_0) rfl k) ?_
  have hc1 : ¬ (p0 < (0 : Int32)) := by exact Ha
  refine go _ (s₁.setTop (mkF m 4 #[.val (.int p0), .val (.int p1), .val (.ref o2)] [])) (fun t k => XS.ifNo X0.here hx rfl (hb hby d29_1) rfl ((if0 _ _).trans (flt hc1).1) k) ?_
  refine go _ (s₁.setTop (mkF m 5 #[.val (.int p0), .val (.int p1), .val (.ref o2)] [(.int p0)])) (fun t k => XS.iloadN X0.here hx rfl (hb hby d29_4) rfl k) ?_
  refine go _ (s₁.setTop (mkF m 6 #[.val (.int p0), .val (.int p1), .val (.ref o2)] [(.int p1), (.int p0)])) (fun t k => XS.iloadN X0.here hx rfl (hb hby d29_5) rfl k) ?_
  have hc6 : p0 < p1 := by exact Hb
  refine go _ (s₁.setTop (mkF m 16 #[.val (.int p0), .val (.int p1), .val (.ref o2)] [])) (fun t k => XS.icmpYes X0.here hx rfl (pc0 := 6) (pc' := 16) rfl (hb hby d29_6) rfl (tlt hc6).1 (by decide) (by decide) k) ?_
  refine go _ (s₁.setTop (mkF m 17 #[.val (.int p0), .val (.int p1), .val (.ref o2)] [(.int p0)])) (fun t k => XS.iloadN X0.here hx rfl (hb hby d29_16) rfl k) ?_
  refine fin (some (.int p0)) (mkF m 17 #[.val (.int p0), .val (.int p1), .val (.ref o2)] [(.int p0)]) X0 (fun h => by cases h) (fun fs hr => retOut X0 hx (t := .int) hret rfl (Or.inl ⟨rfl, by simp, _, rfl⟩) (hb hby d29_17) hr) ?_ (by decide) (by decide)
  try rw [e0]
  exact ⟨rfl, N0, rfl⟩
theorem own_ef28 (m : MethodId) (p0 : Int32) (p1 : Int32) : entryFrame m #[(.int p0), (.int p1)] 2 = mkF m 0 #[.val (.int p0), .val (.int p1)] [] := by first | (simp [entryFrame, mkF, argsToLocals, Value.category]; done) | rfl
theorem own_pn28 : plainName "java/lang/String" = true := by first | (simp [plainName, overriddenIn]; done) | decide +kernel
theorem d28_0 : decode jdk_42_method_155_code 0 = .ok (.iload_n 0, 1) := by decide +kernel
theorem d28_1 : decode jdk_42_method_155_code 1 = .ok (.iload_n 1, 1) := by decide +kernel
theorem d28_2 : decode jdk_42_method_155_code 2 = .ok (.getstatic 1053, 3) := by decide +kernel
theorem d28_5 : decode jdk_42_method_155_code 5 = .ok (.invokestatic 1059, 3) := by decide +kernel
theorem own_pd_23 : parseMethodDescriptor "(IILjava/util/function/BiFunction;)I" = some ⟨[.int, .int, (.object "java/util/function/BiFunction")], some .int⟩ := by decide +kernel
theorem d28_8 : decode jdk_42_method_155_code 8 = .ok (.pop, 1) := by decide +kernel
theorem d28_9 : decode jdk_42_method_155_code 9 = .ok (.return_, 1) := by decide +kernel
def own_Q28 (Z : State) (p0 : Int32) (p1 : Int32) (h0 : Heap) (n0 : Nat) (v : Option Value) (h : Heap) (L : List Loc) : Prop := v = none ∧ Fr n0 L ∧ h = h0
set_option maxRecDepth 65536 in
set_option maxHeartbeats 40000000 in
theorem rm28 (l : Launch) (Z : State) (a0 : Array Value) (hw : ∀ d ∈ tables_1, d.before a0 Z = true) (ws : List Jvm.Cond) (p0 : Int32) (p1 : Int32) (h0 : Heap) (n0 : Nat) (Z0 : n0 ≤ h0.size) (PS : own_St Z n0 h0) (Ha : ¬ (p0 < (0 : Int32))) (Hb : p0 < p1) :
    MetFree l (⟨"java/lang/String", "checkIndex", "(II)V"⟩ : MethodName) (head1 (Jvm.Cond.code (⟨"java/lang/String", "checkIndex", "(II)V"⟩ : MethodName) jdk_42_method_155_code 2 none :: ws) ({ frames := 1, cells := 0, slots := 0, locals := 14 } : Room)) (fun a U => a = #[(.int p0), (.int p1)] ∧ Z.Warmed39 U.vm ∧ U.heap = h0) (fun _ _ _ _ _ => True) (fun _ U o U' => ∃ v L, o = .returned v ∧ own_Q28 Z p0 p1 h0 n0 v U'.heap L ∧ FrameEnd U o U' L ({ frames := 1, cells := 0, slots := 0, locals := 14 } : Room).cells ({ frames := 1, cells := 0, slots := 0, locals := 14 } : Room).slots) := by
  refine own_metfree (Q := own_Q28 Z p0 p1 h0 n0) (plainFor_of_name own_pn28) ?_
  intro p e s m below meth c s₁ X0 hx hby hml hret hown hnm hZ e0 G go fin
  have N0 := Fr.nil n0
  refine go _ (s₁.setTop (mkF m 0 #[.val (.int p0), .val (.int p1)] [])) (fun t k => castTop (own_ef28 m p0 p1) k) ?_
  refine go _ (s₁.setTop (mkF m 1 #[.val (.int p0), .val (.int p1)] [(.int p0)])) (fun t k => XS.iloadN X0.here hx rfl (hb hby d28_0) rfl k) ?_
  refine go _ (s₁.setTop (mkF m 2 #[.val (.int p0), .val (.int p1)] [(.int p1), (.int p0)])) (fun t k => XS.iloadN X0.here hx rfl (hb hby d28_1) rfl k) ?_
  obtain ⟨-, vf, hvf, Sf⟩ := (id PS)
  rcases ref_cases hvf with rfl | ⟨fa, rfl⟩
  · obtain ⟨T1, X1, e1, st1⟩ := getS (host := "") X0 hx hZ hown (hw _ (List.mem_of_getElem? (i := 155) rfl)) Via.refl e0 Sf.sta (g := (mkF m 2 #[.val (.int p0), .val (.int p1)] [(.int p1), (.int p0)])) rfl (hb hby d28_2)
    refine go _ (T1.setTop (mkF m 5 #[.val (.int p0), .val (.int p1)] [.null, (.int p1), (.int p0)])) st1 ?_
    obtain ⟨_, _, ⟨T2, L2, k2, n2⟩, -, X2, ⟨Lc2, hQ2, l2, y2, z2⟩, st2⟩ := Jvm.LawKit.callS X1 hx (y := (⟨"jdk/internal/util/Preconditions", "checkIndex", "(IILjava/util/function/BiFunction;)I"⟩ : MethodName)) hown (mvT hZ (hw _ (List.mem_of_getElem? (i := 157) rfl))) (mvT hZ (hw _ (List.mem_of_getElem? (i := 158) rfl))) (mvT hZ (hw _ (List.mem_of_getElem? (i := 156) rfl))) (mvT hZ (hw _ (List.mem_of_getElem? (i := 159) rfl))) (by decide) (backOf (W := 0) (rm29_n l Z a0 hw [] p0 p1 h0 n0 Z0 Ha Hb) hZ (hw _ (List.mem_of_getElem? (i := 159) rfl)) (hw _ (List.mem_of_getElem? (i := 156) rfl)) (by decide) (by decide)) (g := (mkF m 5 #[.val (.int p0), .val (.int p1)] [.null, (.int p1), (.int p0)])) rfl (by rw [hml]; rfl) (argsL := [(.int p0), (.int p1), .null]) (rest := []) (lenOf own_pd_23 rfl) rfl (by show 2 * 0 + _ ≤ _; exact Nat.le_of_eq rfl) (hb hby d28_5) (fun _ _ => ⟨rfl, e1, (by decide : 0 + 0 ≤ _), (by decide : 0 + 0 ≤ _)⟩)
    dsimp only [Pt.U, Pt.locs, Pt.cells, Pt.slots] at X2 l2 y2 z2 st2 hQ2
    subst l2 y2 z2
    obtain ⟨rfl, Nq2, eq2⟩ := hQ2
    have N2 := Fr.app N0 Nq2
    refine go _ (T2.setTop (mkF m 8 #[.val (.int p0), .val (.int p1)] [(.int p0)])) st2 ?_
    refine go _ (T2.setTop (mkF m 9 #[.val (.int p0), .val (.int p1)] [])) (fun t k => XS.pop X2.here hx rfl (hb hby d28_8) rfl rfl k) ?_
    refine fin (none) (mkF m 9 #[.val (.int p0), .val (.int p1)] []) X2 (fun _ => rfl) (fun fs hr => X2.returnOut hx hret (hb hby d28_9) hr) ?_ (by decide) (by decide)
    try rw [eq2]
    exact ⟨rfl, N2, rfl⟩
  · obtain ⟨T3, X3, e3, st3⟩ := getS (host := "") X0 hx hZ hown (hw _ (List.mem_of_getElem? (i := 155) rfl)) Via.refl e0 Sf.sta (g := (mkF m 2 #[.val (.int p0), .val (.int p1)] [(.int p1), (.int p0)])) rfl (hb hby d28_2)
    refine go _ (T3.setTop (mkF m 5 #[.val (.int p0), .val (.int p1)] [(.ref fa), (.int p1), (.int p0)])) st3 ?_
    obtain ⟨_, _, ⟨T4, L4, k4, n4⟩, -, X4, ⟨Lc4, hQ4, l4, y4, z4⟩, st4⟩ := Jvm.LawKit.callS X3 hx (y := (⟨"jdk/internal/util/Preconditions", "checkIndex", "(IILjava/util/function/BiFunction;)I"⟩ : MethodName)) hown (mvT hZ (hw _ (List.mem_of_getElem? (i := 157) rfl))) (mvT hZ (hw _ (List.mem_of_getElem? (i := 158) rfl))) (mvT hZ (hw _ (List.mem_of_getElem? (i := 156) rfl))) (mvT hZ (hw _ (List.mem_of_getElem? (i := 159) rfl))) (by decide) (backOf (W := 0) (rm29_r l Z a0 hw [] p0 p1 fa h0 n0 Z0 Ha Hb) hZ (hw _ (List.mem_of_getElem? (i := 159) rfl)) (hw _ (List.mem_of_getElem? (i := 156) rfl)) (by decide) (by decide)) (g := (mkF m 5 #[.val (.int p0), .val (.int p1)] [(.ref fa), (.int p1), (.int p0)])) rfl (by rw [hml]; rfl) (argsL := [(.int p0), (.int p1), (.ref fa)]) (rest := []) (lenOf own_pd_23 rfl) rfl (by show 2 * 0 + _ ≤ _; exact Nat.le_of_eq rfl) (hb hby d28_5) (fun _ _ => ⟨rfl, e3, (by decide : 0 + 0 ≤ _), (by decide : 0 + 0 ≤ _)⟩)
    dsimp only [Pt.U, Pt.locs, Pt.cells, Pt.slots] at X4 l4 y4 z4 st4 hQ4
    subst l4 y4 z4
    obtain ⟨rfl, Nq4, eq4⟩ := hQ4
    have N4 := Fr.app N0 Nq4
    refine go _ (T4.setTop (mkF m 8 #[.val (.int p0), .val (.int p1)] [(.int p0)])) st4 ?_
    refine go _ (T4.setTop (mkF m 9 #[.val (.int p0), .val (.int p1)] [])) (fun t k => XS.pop X4.here hx rfl (hb hby d28_8) rfl rfl k) ?_
    refine fin (none) (mkF m 9 #[.val (.int p0), .val (.int p1)] []) X4 (fun _ => rfl) (fun fs hr => X4.returnOut hx hret (hb hby d28_9) hr) ?_ (by decide) (by decide)
    try rw [eq4]
    exact ⟨rfl, N4, rfl⟩
theorem own_ef27 (m : MethodId) (o0 : Addr) (p1 : Int32) : entryFrame m #[(.ref o0), (.int p1)] 2 = mkF m 0 #[.val (.ref o0), .val (.int p1)] [] := by first | (simp [entryFrame, mkF, argsToLocals, Value.category]; done) | rfl
theorem own_pn27 : plainName "java/lang/StringLatin1" = true := by first | (simp [plainName, overriddenIn]; done) | decide +kernel
theorem d27_0 : decode jdk_43_method_2_code 0 = .ok (.iload_n 1, 1) := by decide +kernel
theorem d27_1 : decode jdk_43_method_2_code 1 = .ok (.aload_n 0, 1) := by decide +kernel
theorem d27_2 : decode jdk_43_method_2_code 2 = .ok (.arraylength, 1) := by decide +kernel
theorem d27_3 : decode jdk_43_method_2_code 3 = .ok (.invokestatic 9, 3) := by decide +kernel
theorem d27_6 : decode jdk_43_method_2_code 6 = .ok (.aload_n 0, 1) := by decide +kernel
theorem d27_7 : decode jdk_43_method_2_code 7 = .ok (.iload_n 1, 1) := by decide +kernel
theorem d27_8 : decode jdk_43_method_2_code 8 = .ok (.baload, 1) := by decide +kernel
theorem d27_9 : decode jdk_43_method_2_code 9 = .ok (.sipush 255, 3) := by decide +kernel
theorem d27_12 : decode jdk_43_method_2_code 12 = .ok (.iand, 1) := by decide +kernel
theorem d27_13 : decode jdk_43_method_2_code 13 = .ok (.i2c, 1) := by decide +kernel
theorem d27_14 : decode jdk_43_method_2_code 14 = .ok (.ireturn, 1) := by decide +kernel
def own_Q27 (Z : State) (o0 : Addr) (p1 : Int32) (kk : Nat) (f : Nat → Value) (ii : Nat) (w : Int32) (h0 : Heap) (n0 : Nat) (v : Option Value) (h : Heap) (L : List Loc) : Prop := v = some (.int w) ∧ Fr n0 L ∧ h = h0
set_option maxRecDepth 65536 in
set_option maxHeartbeats 40000000 in
theorem rm27 (l : Launch) (Z : State) (a0 : Array Value) (hw : ∀ d ∈ tables_1, d.before a0 Z = true) (ws : List Jvm.Cond) (o0 : Addr) (p1 : Int32) (kk : Nat) (f : Nat → Value) (ii : Nat) (w : Int32) (h0 : Heap) (n0 : Nat) (Z0 : n0 ≤ h0.size) (PS : own_St Z n0 h0) (PA : own_Av Z h0 o0 .byte kk f) (Pi : p1.toInt = (ii : Int)) (Hi : ii < kk) (Pk : kk < 100000) (Pf : f ii = .int w) (Pw : w = 63 ∨ w = 44 ∨ w = 32) :
    MetFree l (⟨"java/lang/StringLatin1", "charAt", "([BI)C"⟩ : MethodName) (head1 (Jvm.Cond.code (⟨"java/lang/StringLatin1", "charAt", "([BI)C"⟩ : MethodName) jdk_43_method_2_code 2 (some .char) :: ws) ({ frames := 2, cells := 0, slots := 0, locals := 27 } : Room)) (fun a U => a = #[(.ref o0), (.int p1)] ∧ Z.Warmed39 U.vm ∧ U.heap = h0) (fun _ _ _ _ _ => True) (fun _ U o U' => ∃ v L, o = .returned v ∧ own_Q27 Z o0 p1 kk f ii w h0 n0 v U'.heap L ∧ FrameEnd U o U' L ({ frames := 2, cells := 0, slots := 0, locals := 27 } : Room).cells ({ frames := 2, cells := 0, slots := 0, locals := 27 } : Room).slots) := by
  refine own_metfree (Q := own_Q27 Z o0 p1 kk f ii w h0 n0) (plainFor_of_name own_pn27) ?_
  intro p e s m below meth c s₁ X0 hx hby hml hret hown hnm hZ e0 G go fin
  have N0 := Fr.nil n0
  refine go _ (s₁.setTop (mkF m 0 #[.val (.ref o0), .val (.int p1)] [])) (fun t k => castTop (own_ef27 m o0 p1) k) ?_
  have hk32 := own_n32 (n := kk) (by omega)
  refine go _ (s₁.setTop (mkF m 1 #[.val (.ref o0), .val (.int p1)] [(.int p1)])) (fun t k => XS.iloadN X0.here hx rfl (hb hby d27_0) rfl k) ?_
  refine go _ (s₁.setTop (mkF m 2 #[.val (.ref o0), .val (.int p1)] [(.ref o0), (.int p1)])) (fun t k => XS.aloadN X0.here hx rfl (hb hby d27_1) rfl rfl k) ?_
  refine go _ (s₁.setTop (mkF m 3 #[.val (.ref o0), .val (.int p1)] [(.int (Int32.ofNat kk)), (.int p1)])) (fun t k => own_len X0 hx hZ e0 PA hk32 (g := (mkF m 2 #[.val (.ref o0), .val (.int p1)] [(.ref o0), (.int p1)])) rfl rfl (hb hby d27_2) _ k) ?_
  obtain ⟨_, _, ⟨T1, L1, k1, n1⟩, -, X1, ⟨Lc1, hQ1, l1, y1, z1⟩, st1⟩ := Jvm.LawKit.callS X0 hx (y := (⟨"java/lang/String", "checkIndex", "(II)V"⟩ : MethodName)) hown (mvT hZ (hw _ (List.mem_of_getElem? (i := 152) rfl))) (mvT hZ (hw _ (List.mem_of_getElem? (i := 153) rfl))) (mvT hZ (hw _ (List.mem_of_getElem? (i := 20) rfl))) (mvT hZ (hw _ (List.mem_of_getElem? (i := 154) rfl))) (by decide) (backOf (W := 0) (rm28 l Z a0 hw [] p1 (Int32.ofNat kk) h0 n0 Z0 PS (own_nn Pi) ((own_lt Pi hk32).mpr Hi)) hZ (hw _ (List.mem_of_getElem? (i := 154) rfl)) (hw _ (List.mem_of_getElem? (i := 20) rfl)) (by decide) (by decide)) (g := (mkF m 3 #[.val (.ref o0), .val (.int p1)] [(.int (Int32.ofNat kk)), (.int p1)])) rfl (by rw [hml]; rfl) (argsL := [(.int p1), (.int (Int32.ofNat kk))]) (rest := []) (lenOf own_pd_2 rfl) rfl (by show 2 * 0 + _ ≤ _; exact Nat.le_of_eq rfl) (hb hby d27_3) (fun _ _ => ⟨rfl, e0, (by decide : 0 + 0 ≤ _), (by decide : 0 + 0 ≤ _)⟩)
  dsimp only [Pt.U, Pt.locs, Pt.cells, Pt.slots] at X1 l1 y1 z1 st1 hQ1
  subst l1 y1 z1
  obtain ⟨rfl, Nq1, eq1⟩ := hQ1
  have N1 := Fr.app N0 Nq1
  refine go _ (T1.setTop (mkF m 6 #[.val (.ref o0), .val (.int p1)] [])) st1 ?_
  refine go _ (T1.setTop (mkF m 7 #[.val (.ref o0), .val (.int p1)] [(.ref o0)])) (fun t k => XS.aloadN X1.here hx rfl (hb hby d27_6) rfl rfl k) ?_
  refine go _ (T1.setTop (mkF m 8 #[.val (.ref o0), .val (.int p1)] [(.int p1), (.ref o0)])) (fun t k => XS.iloadN X1.here hx rfl (hb hby d27_7) rfl k) ?_
  refine go _ (T1.setTop (mkF m 9 #[.val (.ref o0), .val (.int p1)] [(.int (own_iv (f ii)))])) (fun t k => own_ldB X1 hx hZ eq1 PA (i := ii) Pi Hi (g := (mkF m 8 #[.val (.ref o0), .val (.int p1)] [(.int p1), (.ref o0)])) rfl rfl (hb hby d27_8) _ k) ?_
  rw [show own_iv (f ii) = w by rw [Pf]; rfl]
  refine go _ (T1.setTop (mkF m 12 #[.val (.ref o0), .val (.int p1)] [(.int (255 : Int32)), (.int w)])) (fun t k => XS.sipush X1.here hx rfl (hb hby d27_9) k) ?_
  refine go _ (T1.setTop (mkF m 13 #[.val (.ref o0), .val (.int p1)] [(.int (w &&& (255 : Int32)))])) (fun t k => XS.iand X1.here hx rfl (hb hby d27_12) rfl k) ?_
  refine go _ (T1.setTop (mkF m 14 #[.val (.ref o0), .val (.int p1)] [(.int ((w &&& (255 : Int32)).toUInt32.toUInt16.toUInt32.toInt32))])) (fun t k => XS.i2c X1.here hx rfl (hb hby d27_13) rfl k) ?_
  rw [own_ch Pw]
  refine fin (some (.int w)) (mkF m 14 #[.val (.ref o0), .val (.int p1)] [(.int w)]) X1 (fun h => by cases h) (fun fs hr => retOut X1 hx (t := .char) hret (own_narC Pw) (Or.inl ⟨rfl, by simp, _, rfl⟩) (hb hby d27_14) hr) ?_ (by decide) (by decide)
  try rw [eq1]
  exact ⟨rfl, N1, rfl⟩
theorem own_ef25 (m : MethodId) (o0 : Addr) (p1 : Int32) : entryFrame m #[(.ref o0), (.int p1)] 2 = mkF m 0 #[.val (.ref o0), .val (.int p1)] [] := by first | (simp [entryFrame, mkF, argsToLocals, Value.category]; done) | rfl
theorem own_pn25 : plainName "java/lang/String" = true := by first | (simp [plainName, overriddenIn]; done) | decide +kernel
theorem d25_0 : decode jdk_42_method_56_code 0 = .ok (.aload_n 0, 1) := by decide +kernel
theorem d25_1 : decode jdk_42_method_56_code 1 = .ok (.invokevirtual 492, 3) := by decide +kernel
theorem d25_4 : decode jdk_42_method_56_code 4 = .ok (.ifCond .eq 12, 3) := by decide +kernel
theorem d25_7 : decode jdk_42_method_56_code 7 = .ok (.aload_n 0, 1) := by decide +kernel
theorem d25_8 : decode jdk_42_method_56_code 8 = .ok (.getfield 9, 3) := by decide +kernel
theorem d25_11 : decode jdk_42_method_56_code 11 = .ok (.iload_n 1, 1) := by decide +kernel
theorem d25_12 : decode jdk_42_method_56_code 12 = .ok (.invokestatic 495, 3) := by decide +kernel
theorem own_pd_24 : parseMethodDescriptor "([BI)C" = some ⟨[(.array .byte), .int], some .char⟩ := by decide +kernel
theorem d25_15 : decode jdk_42_method_56_code 15 = .ok (.ireturn, 1) := by decide +kernel
def own_Q25 (Z : State) (o0 : Addr) (p1 : Int32) (sb : Addr) (kk : Nat) (f : Nat → Value) (ii : Nat) (w : Int32) (h0 : Heap) (n0 : Nat) (v : Option Value) (h : Heap) (L : List Loc) : Prop := v = some (.int w) ∧ Fr n0 L ∧ h = h0
set_option maxRecDepth 65536 in
set_option maxHeartbeats 40000000 in
theorem rm25 (l : Launch) (Z : State) (a0 : Array Value) (hw : ∀ d ∈ tables_1, d.before a0 Z = true) (ws : List Jvm.Cond) (o0 : Addr) (p1 : Int32) (sb : Addr) (kk : Nat) (f : Nat → Value) (ii : Nat) (w : Int32) (h0 : Heap) (n0 : Nat) (Z0 : n0 ≤ h0.size) (PS : own_St Z n0 h0) (QE : Exa Z h0 o0 "java/lang/String") (QC : Fld Z h0 o0 "java/lang/String" "coder" "B" (.int (0 : Int32))) (QV : Fld Z h0 o0 "java/lang/String" "value" "[B" (.ref sb)) (QA : own_Av Z h0 sb .byte kk f) (Pi : p1.toInt = (ii : Int)) (Hi : ii < kk) (Pk : kk < 100000) (Pf : f ii = .int w) (Pw : w = 63 ∨ w = 44 ∨ w = 32) :
    MetFree l (⟨"java/lang/String", "charAt", "(I)C"⟩ : MethodName) (head1 (Jvm.Cond.code (⟨"java/lang/String", "charAt", "(I)C"⟩ : MethodName) jdk_42_method_56_code 2 (some .char) :: ws) ({ frames := 3, cells := 0, slots := 0, locals := 40 } : Room)) (fun a U => a = #[(.ref o0), (.int p1)] ∧ Z.Warmed39 U.vm ∧ U.heap = h0) (fun _ _ _ _ _ => True) (fun _ U o U' => ∃ v L, o = .returned v ∧ own_Q25 Z o0 p1 sb kk f ii w h0 n0 v U'.heap L ∧ FrameEnd U o U' L ({ frames := 3, cells := 0, slots := 0, locals := 40 } : Room).cells ({ frames := 3, cells := 0, slots := 0, locals := 40 } : Room).slots) := by
  refine own_metfree (Q := own_Q25 Z o0 p1 sb kk f ii w h0 n0) (plainFor_of_name own_pn25) ?_
  intro p e s m below meth c s₁ X0 hx hby hml hret hown hnm hZ e0 G go fin
  have N0 := Fr.nil n0
  refine go _ (s₁.setTop (mkF m 0 #[.val (.ref o0), .val (.int p1)] [])) (fun t k => castTop (own_ef25 m o0 p1) k) ?_
  refine go _ (s₁.setTop (mkF m 1 #[.val (.ref o0), .val (.int p1)] [(.ref o0)])) (fun t k => XS.aloadN X0.here hx rfl (hb hby d25_0) rfl rfl k) ?_
  obtain ⟨cq1, kq1, q1a, q1b, q1c⟩ := isOf hZ e0 QE
  obtain ⟨_, _, ⟨T1, L1, k1, n1⟩, -, X1, ⟨Lc1, hQ1, l1, y1, z1⟩, st1⟩ := X0.virtualBack hx (y := (⟨"java/lang/String", "isLatin1", "()Z"⟩ : MethodName)) (z := (⟨"java/lang/String", "isLatin1", "()Z"⟩ : MethodName)) hown (mvT hZ (hw _ (List.mem_of_getElem? (i := 143) rfl))) (mvT hZ (hw _ (List.mem_of_getElem? (i := 144) rfl))) (notFace_of_selects (args := #[]) (mvT hZ (hw _ (List.mem_of_getElem? (i := 146) rfl)))) (mvT hZ (hw _ (List.mem_of_getElem? (i := 146) rfl))) (mvT hZ (hw _ (List.mem_of_getElem? (i := 145) rfl))) (by decide) (backOf (W := 0) (rm26 l Z a0 hw [] o0 h0 n0 Z0 PS QC) hZ (hw _ (List.mem_of_getElem? (i := 147) rfl)) (hw _ (List.mem_of_getElem? (i := 20) rfl)) (by decide) (by decide)) q1a q1c (g := (mkF m 1 #[.val (.ref o0), .val (.int p1)] [(.ref o0)])) rfl (by rw [hml]; rfl) (Steps.refl _) (argsL := []) (rest := []) (lenOf own_pd_14 rfl) rfl (by show 2 * 0 + _ ≤ _; exact Nat.le_of_eq rfl) (hb hby d25_1) (fun _ _ => ⟨rfl, e0, (by decide : 0 + 0 ≤ _), (by decide : 0 + 0 ≤ _)⟩)
  dsimp only [Pt.U, Pt.locs, Pt.cells, Pt.slots] at X1 l1 y1 z1 st1 hQ1
  subst l1 y1 z1
  obtain ⟨rfl, Nq1, eq1⟩ := hQ1
  have N1 := Fr.app N0 Nq1
  refine go _ (T1.setTop (mkF m 4 #[.val (.ref o0), .val (.int p1)] [(.int (1 : Int32))])) (fun t k => st1.trans k) ?_
  have hc4 : ¬ ((1 : Int32) = (0 : Int32)) := by decide
  refine go _ (T1.setTop (mkF m 7 #[.val (.ref o0), .val (.int p1)] [])) (fun t k => XS.ifNo X1.here hx rfl (hb hby d25_4) rfl ((if0 _ _).trans (feq hc4).1) k) ?_
  refine go _ (T1.setTop (mkF m 8 #[.val (.ref o0), .val (.int p1)] [(.ref o0)])) (fun t k => XS.aloadN X1.here hx rfl (hb hby d25_7) rfl rfl k) ?_
  obtain ⟨T2, X2, e2, st2⟩ := getF X1 hx hZ hown (host := "") (Or.inl (hw _ (List.mem_of_getElem? (i := 47) rfl))) Via.refl eq1 QV (g := (mkF m 8 #[.val (.ref o0), .val (.int p1)] [(.ref o0)])) rfl rfl (hb hby d25_8)
  refine go _ (T2.setTop (mkF m 11 #[.val (.ref o0), .val (.int p1)] [(.ref sb)])) st2 ?_
  refine go _ (T2.setTop (mkF m 12 #[.val (.ref o0), .val (.int p1)] [(.int p1), (.ref sb)])) (fun t k => XS.iloadN X2.here hx rfl (hb hby d25_11) rfl k) ?_
  obtain ⟨_, _, ⟨T3, L3, k3, n3⟩, -, X3, ⟨Lc3, hQ3, l3, y3, z3⟩, st3⟩ := Jvm.LawKit.callS X2 hx (y := (⟨"java/lang/StringLatin1", "charAt", "([BI)C"⟩ : MethodName)) hown (mvT hZ (hw _ (List.mem_of_getElem? (i := 148) rfl))) (mvT hZ (hw _ (List.mem_of_getElem? (i := 149) rfl))) (mvT hZ (hw _ (List.mem_of_getElem? (i := 150) rfl))) (mvT hZ (hw _ (List.mem_of_getElem? (i := 151) rfl))) (by decide) (backOf (W := 0) (rm27 l Z a0 hw [] sb p1 kk f ii w h0 n0 Z0 PS QA Pi Hi Pk Pf Pw) hZ (hw _ (List.mem_of_getElem? (i := 151) rfl)) (hw _ (List.mem_of_getElem? (i := 150) rfl)) (by decide) (by decide)) (g := (mkF m 12 #[.val (.ref o0), .val (.int p1)] [(.int p1), (.ref sb)])) rfl (by rw [hml]; rfl) (argsL := [(.ref sb), (.int p1)]) (rest := []) (lenOf own_pd_24 rfl) rfl (by show 2 * 0 + _ ≤ _; exact Nat.le_of_eq rfl) (hb hby d25_12) (fun _ _ => ⟨rfl, e2, (by decide : 0 + 0 ≤ _), (by decide : 0 + 0 ≤ _)⟩)
  dsimp only [Pt.U, Pt.locs, Pt.cells, Pt.slots] at X3 l3 y3 z3 st3 hQ3
  subst l3 y3 z3
  obtain ⟨rfl, Nq3, eq3⟩ := hQ3
  have N3 := Fr.app N1 Nq3
  refine go _ (T3.setTop (mkF m 15 #[.val (.ref o0), .val (.int p1)] [(.int w)])) st3 ?_
  refine fin (some (.int w)) (mkF m 15 #[.val (.ref o0), .val (.int p1)] [(.int w)]) X3 (fun h => by cases h) (fun fs hr => retOut X3 hx (t := .char) hret (own_narC Pw) (Or.inl ⟨rfl, by simp, _, rfl⟩) (hb hby d25_15) hr) ?_ (by decide) (by decide)
  try rw [eq3]
  exact ⟨rfl, N3, rfl⟩
theorem own_ef30 (m : MethodId) (p0 : Int32) : entryFrame m #[(.int p0)] 2 = mkF m 0 #[.val (.int p0), .unset] [] := by first | (simp [entryFrame, mkF, argsToLocals, Value.category]; done) | rfl
theorem own_pn30 : plainName "com/example/postledger/postledger/SqlPlaceholdersPinLaw" = true := by first | (simp [plainName, overriddenIn]; done) | decide +kernel
theorem d30_0 : decode method_2_code 0 = .ok (.iload_n 0, 1) := by decide +kernel
theorem d30_1 : decode method_2_code 1 = .ok (.iconst 3, 1) := by decide +kernel
theorem d30_2 : decode method_2_code 2 = .ok (.irem, 1) := by decide +kernel
theorem d30_3 : decode method_2_code 3 = .ok (.istore_n 1, 1) := by decide +kernel
theorem d30_4 : decode method_2_code 4 = .ok (.iload_n 1, 1) := by decide +kernel
theorem d30_5 : decode method_2_code 5 = .ok (.ifCond .ne 6, 3) := by decide +kernel
theorem d30_8 : decode method_2_code 8 = .ok (.bipush 63, 2) := by decide +kernel
theorem d30_10 : decode method_2_code 10 = .ok (.ireturn, 1) := by decide +kernel
theorem d30_11 : decode method_2_code 11 = .ok (.iload_n 1, 1) := by decide +kernel
theorem d30_12 : decode method_2_code 12 = .ok (.iconst 1, 1) := by decide +kernel
theorem d30_13 : decode method_2_code 13 = .ok (.if_icmp .ne 6, 3) := by decide +kernel
theorem d30_16 : decode method_2_code 16 = .ok (.bipush 44, 2) := by decide +kernel
theorem d30_18 : decode method_2_code 18 = .ok (.ireturn, 1) := by decide +kernel
theorem d30_19 : decode method_2_code 19 = .ok (.bipush 32, 2) := by decide +kernel
theorem d30_21 : decode method_2_code 21 = .ok (.ireturn, 1) := by decide +kernel
def own_Q30 (Z : State) (p0 : Int32) (ii : Nat) (h0 : Heap) (n0 : Nat) (v : Option Value) (h : Heap) (L : List Loc) : Prop := v = some (.int (own_exp ii)) ∧ Fr n0 L ∧ h = h0
set_option maxRecDepth 65536 in
set_option maxHeartbeats 40000000 in
theorem rm30 (l : Launch) (Z : State) (a0 : Array Value) (hw : ∀ d ∈ tables_1, d.before a0 Z = true) (ws : List Jvm.Cond) (p0 : Int32) (ii : Nat) (h0 : Heap) (n0 : Nat) (Z0 : n0 ≤ h0.size) (Pi : p0.toInt = (ii : Int)) :
    MetFree l (⟨"com/example/postledger/postledger/SqlPlaceholdersPinLaw", "expectedAt", "(I)C"⟩ : MethodName) (head1 (Jvm.Cond.code (⟨"com/example/postledger/postledger/SqlPlaceholdersPinLaw", "expectedAt", "(I)C"⟩ : MethodName) method_2_code 2 (some .char) :: ws) ({ frames := 0, cells := 0, slots := 0, locals := 0 } : Room)) (fun a U => a = #[(.int p0)] ∧ Z.Warmed39 U.vm ∧ U.heap = h0) (fun _ _ _ _ _ => True) (fun _ U o U' => ∃ v L, o = .returned v ∧ own_Q30 Z p0 ii h0 n0 v U'.heap L ∧ FrameEnd U o U' L ({ frames := 0, cells := 0, slots := 0, locals := 0 } : Room).cells ({ frames := 0, cells := 0, slots := 0, locals := 0 } : Room).slots) := by
  refine own_metfree (Q := own_Q30 Z p0 ii h0 n0) (plainFor_of_name own_pn30) ?_
  intro p e s m below meth c s₁ X0 hx hby hml hret hown hnm hZ e0 G go fin
  have N0 := Fr.nil n0
  refine go _ (s₁.setTop (mkF m 0 #[.val (.int p0), .unset] [])) (fun t k => castTop (own_ef30 m p0) k) ?_
  refine go _ (s₁.setTop (mkF m 1 #[.val (.int p0), .unset] [(.int p0)])) (fun t k => XS.iloadN X0.here hx rfl (hb hby d30_0) rfl k) ?_
  refine go _ (s₁.setTop (mkF m 2 #[.val (.int p0), .unset] [(.int (3 : Int32)), (.int p0)])) (fun t k => XS.iconst X0.here hx rfl (hb hby d30_1) k) ?_
  refine go _ (s₁.setTop (mkF m 3 #[.val (.int p0), .unset] [(.int (p0 % (3 : Int32)))])) (fun t k => iremM X0 hx rfl (hb hby d30_2) rfl (show (3 : Int32) ≠ 0 from by decide) k) ?_
  generalize hv_vr : (p0 % (3 : Int32)) = vr
  have hvr : vr.toInt = ((ii % 3 : Nat) : Int) := by have q := (c_irem p0 (3 : Int32) 3 (by decide)).1 (by omega); rw [← hv_vr]; omega
  refine go _ (s₁.setTop (mkF m 4 #[.val (.int p0), .val (.int vr)] [])) (fun t k => XS.istoreN X0.here hx rfl (hb hby d30_3) rfl (l' := #[.val (.int p0), .val (.int vr)]) rfl k) ?_
  refine go _ (s₁.setTop (mkF m 5 #[.val (.int p0), .val (.int vr)] [(.int vr)])) (fun t k => XS.iloadN X0.here hx rfl (hb hby d30_4) rfl k) ?_
  rcases Decidable.em (vr = (0 : Int32)) with hc5 | hc5
  · refine go _ (s₁.setTop (mkF m 8 #[.val (.int p0), .val (.int vr)] [])) (fun t k => XS.ifNo X0.here hx rfl (hb hby d30_5) rfl ((if0 _ _).trans (teq hc5).2) k) ?_
    refine go _ (s₁.setTop (mkF m 10 #[.val (.int p0), .val (.int vr)] [(.int (63 : Int32))])) (fun t k => XS.bipush X0.here hx rfl (hb hby d30_8) k) ?_
    have d0 := own_eqn hvr (n := 0) (c := (0 : Int32)) (by decide)
    refine fin (some (.int (63 : Int32))) (mkF m 10 #[.val (.int p0), .val (.int vr)] [(.int (63 : Int32))]) X0 (fun h => by cases h) (fun fs hr => retOut X0 hx (t := .char) hret rfl (Or.inl ⟨rfl, by simp, _, rfl⟩) (hb hby d30_10) hr) ?_ (by decide) (by decide)
    try rw [e0]
    exact ⟨by rw [own_exp, if_pos (d0.mp hc5)], N0, rfl⟩
  · refine go _ (s₁.setTop (mkF m 11 #[.val (.int p0), .val (.int vr)] [])) (fun t k => XS.ifYes X0.here hx rfl (pc0 := 5) (pc' := 11) rfl (hb hby d30_5) rfl ((if0 _ _).trans (feq hc5).2) (by decide) (by decide) k) ?_
    refine go _ (s₁.setTop (mkF m 12 #[.val (.int p0), .val (.int vr)] [(.int vr)])) (fun t k => XS.iloadN X0.here hx rfl (hb hby d30_11) rfl k) ?_
    refine go _ (s₁.setTop (mkF m 13 #[.val (.int p0), .val (.int vr)] [(.int (1 : Int32)), (.int vr)])) (fun t k => XS.iconst X0.here hx rfl (hb hby d30_12) k) ?_
    rcases Decidable.em (vr = (1 : Int32)) with hc13 | hc13
    · refine go _ (s₁.setTop (mkF m 16 #[.val (.int p0), .val (.int vr)] [])) (fun t k => XS.icmpNo X0.here hx rfl (hb hby d30_13) rfl (teq hc13).2 k) ?_
      refine go _ (s₁.setTop (mkF m 18 #[.val (.int p0), .val (.int vr)] [(.int (44 : Int32))])) (fun t k => XS.bipush X0.here hx rfl (hb hby d30_16) k) ?_
      have d0 := own_eqn hvr (n := 0) (c := (0 : Int32)) (by decide)
      have d1 := own_eqn hvr (n := 1) (c := (1 : Int32)) (by decide)
      refine fin (some (.int (44 : Int32))) (mkF m 18 #[.val (.int p0), .val (.int vr)] [(.int (44 : Int32))]) X0 (fun h => by cases h) (fun fs hr => retOut X0 hx (t := .char) hret rfl (Or.inl ⟨rfl, by simp, _, rfl⟩) (hb hby d30_18) hr) ?_ (by decide) (by decide)
      try rw [e0]
      exact ⟨by rw [own_exp, if_neg (mt d0.mpr hc5), if_pos (d1.mp hc13)], N0, rfl⟩
    · refine go _ (s₁.setTop (mkF m 19 #[.val (.int p0), .val (.int vr)] [])) (fun t k => XS.icmpYes X0.here hx rfl (pc0 := 13) (pc' := 19) rfl (hb hby d30_13) rfl (feq hc13).2 (by decide) (by decide) k) ?_
      refine go _ (s₁.setTop (mkF m 21 #[.val (.int p0), .val (.int vr)] [(.int (32 : Int32))])) (fun t k => XS.bipush X0.here hx rfl (hb hby d30_19) k) ?_
      have d0 := own_eqn hvr (n := 0) (c := (0 : Int32)) (by decide)
      have d1 := own_eqn hvr (n := 1) (c := (1 : Int32)) (by decide)
      refine fin (some (.int (32 : Int32))) (mkF m 21 #[.val (.int p0), .val (.int vr)] [(.int (32 : Int32))]) X0 (fun h => by cases h) (fun fs hr => retOut X0 hx (t := .char) hret rfl (Or.inl ⟨rfl, by simp, _, rfl⟩) (hb hby d30_21) hr) ?_ (by decide) (by decide)
      try rw [e0]
      exact ⟨by rw [own_exp, if_neg (mt d0.mpr hc5), if_neg (mt d1.mpr hc13)], N0, rfl⟩
theorem own_ef0 (m : MethodId) (p0 : Int32) (p1 : Int32) (p2 : Int32) : entryFrame m #[(.int p0), (.int p1), (.int p2)] maxLocals = mkF m 0 #[.val (.int p0), .val (.int p1), .val (.int p2), .unset, .unset, .unset, .unset, .unset] [] := by first | (simp [entryFrame, mkF, argsToLocals, Value.category, maxLocals]; done) | rfl
theorem own_pn0 : plainName "com/example/postledger/postledger/SqlPlaceholdersPinLaw" = true := by first | (simp [plainName, overriddenIn]; done) | decide +kernel
theorem own_pd_25 : parseMethodDescriptor "(I)C" = some ⟨[.int], some .char⟩ := by decide +kernel
def own_Q0 (Z : State) (p0 : Int32) (p1 : Int32) (p2 : Int32) (h0 : Heap) (n0 : Nat) (v : Option Value) (h : Heap) (L : List Loc) : Prop := v = some (.int 1) ∧ Fr n0 L
set_option maxRecDepth 65536 in
set_option maxHeartbeats 40000000 in
theorem rm0 (l : Launch) (Z : State) (a0 : Array Value) (hw : ∀ d ∈ tables_1, d.before a0 Z = true) (ws : List Jvm.Cond) (p0 : Int32) (p1 : Int32) (p2 : Int32) (h0 : Heap) (n0 : Nat) (Z0 : n0 ≤ h0.size) (PS : own_St Z n0 h0) :
    MetFree l x (head1 (Jvm.Cond.code x code maxLocals ret :: ws) room_1) (fun a U => a = #[(.int p0), (.int p1), (.int p2)] ∧ Z.Warmed39 U.vm ∧ U.heap = h0 ∧ CHv Z consts_1 U.vm h0) (fun _ _ _ _ _ => True) (fun _ U o U' => ∃ v L, o = .returned v ∧ own_Q0 Z p0 p1 p2 h0 n0 v U'.heap L ∧ ReturnedEndW U o U' L room_1.cells room_1.slots) := by
  refine own_metfreeH (EL := consts_1) (Q := own_Q0 Z p0 p1 p2 h0 n0) (plainFor_of_name own_pn0) ?_
  intro p e s m below meth c s₁ X0 hx hby hml hret hown hnm hZ e0 hC0 G go fin
  have N0 := Fr.nil n0
  have hS : s.Since s.vm 0 := (State.WarmedH.refl s).since 0
  have hk : 0 ≤ h0.size := Nat.zero_le _
  refine go _ (s₁.setTop (mkF m 0 #[.val (.int p0), .val (.int p1), .val (.int p2), .unset, .unset, .unset, .unset, .unset] [])) (fun t k => castTop (own_ef0 m p0 p1 p2) k) ?_
  refine go _ (s₁.setTop (mkF m 1 #[.val (.int p0), .val (.int p1), .val (.int p2), .unset, .unset, .unset, .unset, .unset] [(.int (1 : Int32))])) (fun t k => XS.iconst X0.here hx rfl (hb hby at_0) k) ?_
  refine go _ (s₁.setTop (mkF m 2 #[.val (.int p0), .val (.int p1), .val (.int p2), .unset, .unset, .unset, .unset, .unset] [(.int p0), (.int (1 : Int32))])) (fun t k => XS.iloadN X0.here hx rfl (hb hby at_1) rfl k) ?_
  refine go _ (s₁.setTop (mkF m 4 #[.val (.int p0), .val (.int p1), .val (.int p2), .unset, .unset, .unset, .unset, .unset] [(.int (63 : Int32)), (.int p0), (.int (1 : Int32))])) (fun t k => XS.bipush X0.here hx rfl (hb hby at_2) k) ?_
  refine go _ (s₁.setTop (mkF m 5 #[.val (.int p0), .val (.int p1), .val (.int p2), .unset, .unset, .unset, .unset, .unset] [(.int (p0 &&& (63 : Int32))), (.int (1 : Int32))])) (fun t k => XS.iand X0.here hx rfl (hb hby at_4) rfl k) ?_
  refine go _ (s₁.setTop (mkF m 6 #[.val (.int p0), .val (.int p1), .val (.int p2), .unset, .unset, .unset, .unset, .unset] [(.int ((1 : Int32) + (p0 &&& (63 : Int32))))])) (fun t k => XS.iadd X0.here hx rfl (hb hby at_5) rfl k) ?_
  generalize hv_vn : ((1 : Int32) + (p0 &&& (63 : Int32))) = vn
  obtain ⟨nn, hn, hn1, hn64⟩ := own_n64 p0
  rw [hv_vn] at hn
  refine go _ (s₁.setTop (mkF m 7 #[.val (.int p0), .val (.int p1), .val (.int p2), .val (.int vn), .unset, .unset, .unset, .unset] [])) (fun t k => XS.istoreN X0.here hx rfl (hb hby at_6) rfl (l' := #[.val (.int p0), .val (.int p1), .val (.int p2), .val (.int vn), .unset, .unset, .unset, .unset]) rfl k) ?_
  refine go _ (s₁.setTop (mkF m 8 #[.val (.int p0), .val (.int p1), .val (.int p2), .val (.int vn), .unset, .unset, .unset, .unset] [(.int vn)])) (fun t k => XS.iloadN X0.here hx rfl (hb hby at_7) rfl k) ?_
  obtain ⟨_, _, ⟨T1, L1, k1, n1⟩, -, X1, hS1, hG1, ⟨Lc1, hQ1, l1, y1, z1⟩, st1⟩ := callSS X0 hx (y := (⟨"com/example/postledger/postledger/Sql", "placeholders", "(I)Ljava/lang/String;"⟩ : MethodName)) hown (mvT hZ (hw _ (List.mem_of_getElem? (i := 0) rfl))) (mvT hZ (hw _ (List.mem_of_getElem? (i := 1) rfl))) (mvT hZ (hw _ (List.mem_of_getElem? (i := 2) rfl))) (mvT hZ (hw _ (List.mem_of_getElem? (i := 3) rfl))) (by decide) (own_backH (s := s) (vm0 := s.vm) (W := 0) (rm1 l Z a0 hw [] vn nn h0 n0 Z0 PS hn hn1 hn64) hZ (hw _ (List.mem_of_getElem? (i := 3) rfl)) (hw _ (List.mem_of_getElem? (i := 2) rfl)) (by decide) (by decide) (own_EL hw) hC0) (g := (mkF m 8 #[.val (.int p0), .val (.int p1), .val (.int p2), .val (.int vn), .unset, .unset, .unset, .unset] [(.int vn)])) rfl (by rw [hml]; rfl) (argsL := [(.int vn)]) (rest := []) (lenOf own_pd_21 rfl) rfl (by show 2 * 0 + _ ≤ _; exact Nat.le_of_eq rfl) (hb hby at_8) (fun _ _ => ⟨rfl, e0, (by decide : 0 + 11 ≤ _), (by decide : 0 + 652 ≤ _)⟩)
  dsimp only [Pt.U, Pt.locs, Pt.cells, Pt.slots] at X1 l1 y1 z1 st1 hQ1 hS1 hG1
  subst l1 y1 z1
  have hZ : Z.Warmed39 (s.setVm T1.vm).vm := State.Warmed39.trans (t := s.setVm s.vm) hZ hS1.1
  have hown : (s.setVm T1.vm).vm.findClass "com/example/postledger/postledger/SqlPlaceholdersPinLaw" = some m.cls := by show T1.vm.findClass _ = _; rw [hS1.1.alike.findClass]; exact hown
  have hS : s.Since T1.vm T1.heap.size := hS.trans hS1 (Nat.le_trans hk (Nat.le_trans (Nat.le_of_eq (congrArg Array.size e0.symm)) hG1))
  have hk : T1.heap.size ≤ T1.heap.size := Nat.le_refl _
  obtain ⟨r1, rfl, Nq1, szr1, K1, Ex1, Fc1, nb1, ff1, sz1, nrb1, Fv1, An1, ag1⟩ := hQ1
  have N1 := Fr.app N0 Nq1
  have sz_r1 : h0.size ≤ r1 := szr1
  have sz_nb1 : h0.size ≤ nb1 := sz1
  have g_r1 : n0 ≤ r1 := Nat.le_trans Z0 szr1
  have g_nb1 : n0 ≤ nb1 := Nat.le_trans Z0 sz1
  refine go _ (T1.setTop (mkF m 11 #[.val (.int p0), .val (.int p1), .val (.int p2), .val (.int vn), .unset, .unset, .unset, .unset] [(.ref r1)])) (fun t k => st1.trans k) ?_
  refine go _ (T1.setTop (mkF m 13 #[.val (.int p0), .val (.int p1), .val (.int p2), .val (.int vn), .val (.ref r1), .unset, .unset, .unset] [])) (fun t k => XS.astore X1.here hx rfl (hb hby at_11) rfl rfl (l' := #[.val (.int p0), .val (.int p1), .val (.int p2), .val (.int vn), .val (.ref r1), .unset, .unset, .unset]) rfl k) ?_
  refine go _ (T1.setTop (mkF m 14 #[.val (.int p0), .val (.int p1), .val (.int p2), .val (.int vn), .val (.ref r1), .unset, .unset, .unset] [(.int (3 : Int32))])) (fun t k => XS.iconst X1.here hx rfl (hb hby at_13) k) ?_
  refine go _ (T1.setTop (mkF m 15 #[.val (.int p0), .val (.int p1), .val (.int p2), .val (.int vn), .val (.ref r1), .unset, .unset, .unset] [(.int vn), (.int (3 : Int32))])) (fun t k => XS.iloadN X1.here hx rfl (hb hby at_14) rfl k) ?_
  refine go _ (T1.setTop (mkF m 16 #[.val (.int p0), .val (.int p1), .val (.int p2), .val (.int vn), .val (.ref r1), .unset, .unset, .unset] [(.int ((3 : Int32) * vn))])) (fun t k => XS.imul X1.here hx rfl (hb hby at_15) rfl k) ?_
  refine go _ (T1.setTop (mkF m 17 #[.val (.int p0), .val (.int p1), .val (.int p2), .val (.int vn), .val (.ref r1), .unset, .unset, .unset] [(.int (2 : Int32)), (.int ((3 : Int32) * vn))])) (fun t k => XS.iconst X1.here hx rfl (hb hby at_16) k) ?_
  refine go _ (T1.setTop (mkF m 18 #[.val (.int p0), .val (.int p1), .val (.int p2), .val (.int vn), .val (.ref r1), .unset, .unset, .unset] [(.int (((3 : Int32) * vn) - (2 : Int32)))])) (fun t k => XS.isub X1.here hx rfl (hb hby at_17) rfl k) ?_
  generalize hv_vl : (((3 : Int32) * vn) - (2 : Int32)) = vl
  have hl : vl.toInt = ((3 * nn - 2 : Nat) : Int) := by rw [← hv_vl]; exact own_subn (own_mul3 hn (by omega)) (by decide) (by omega) (by omega)
  refine go _ (T1.setTop (mkF m 20 #[.val (.int p0), .val (.int p1), .val (.int p2), .val (.int vn), .val (.ref r1), .val (.int vl), .unset, .unset] [])) (fun t k => XS.istore X1.here hx rfl (hb hby at_18) rfl (l' := #[.val (.int p0), .val (.int p1), .val (.int p2), .val (.int vn), .val (.ref r1), .val (.int vl), .unset, .unset]) rfl k) ?_
  refine go _ (T1.setTop (mkF m 22 #[.val (.int p0), .val (.int p1), .val (.int p2), .val (.int vn), .val (.ref r1), .val (.int vl), .unset, .unset] [(.ref r1)])) (fun t k => XS.aload X1.here hx rfl (hb hby at_20) rfl rfl k) ?_
  have PS2 : own_St Z n0 T1.heap := PS.keep ((Keep.refl h0 []).trans K1 all0) own_ge0
  have Z3z : n0 ≤ T1.heap.size := (Nat.le_trans Z0 K1.1)
  obtain ⟨cq4, kq4, q4a, q4b, q4c⟩ := isOf hZ rfl Ex1
  obtain ⟨_, _, ⟨T4, L4, k4, n4⟩, -, X4, ⟨Lc4, hQ4, l4, y4, z4⟩, st4⟩ := X1.virtualBack hx (y := (⟨"java/lang/String", "length", "()I"⟩ : MethodName)) (z := (⟨"java/lang/String", "length", "()I"⟩ : MethodName)) hown (mvT hZ (hw _ (List.mem_of_getElem? (i := 136) rfl))) (mvT hZ (hw _ (List.mem_of_getElem? (i := 43) rfl))) (notFace_of_selects (args := #[]) (mvT hZ (hw _ (List.mem_of_getElem? (i := 45) rfl)))) (mvT hZ (hw _ (List.mem_of_getElem? (i := 45) rfl))) (mvT hZ (hw _ (List.mem_of_getElem? (i := 44) rfl))) (by decide) (backOf (W := 0) (rm7 l Z a0 hw [] r1 nb1 (3 * nn - 2) ff1 T1.heap n0 Z3z PS2 Ex1 Fc1 Fv1 An1 (by omega)) hZ (hw _ (List.mem_of_getElem? (i := 46) rfl)) (hw _ (List.mem_of_getElem? (i := 20) rfl)) (by decide) (by decide)) q4a q4c (g := (mkF m 22 #[.val (.int p0), .val (.int p1), .val (.int p2), .val (.int vn), .val (.ref r1), .val (.int vl), .unset, .unset] [(.ref r1)])) rfl (by rw [hml]; rfl) (Steps.refl _) (argsL := []) (rest := []) (lenOf own_pd_9 rfl) rfl (by show 2 * 0 + _ ≤ _; exact Nat.le_of_eq rfl) (hb hby at_22) (fun _ _ => ⟨rfl, rfl, (by decide : 11 + 0 ≤ _), (by decide : 652 + 0 ≤ _)⟩)
  dsimp only [Pt.U, Pt.locs, Pt.cells, Pt.slots] at X4 l4 y4 z4 st4 hQ4
  subst l4 y4 z4
  obtain ⟨rfl, Nq4, eq4⟩ := hQ4
  have N4 := Fr.app N1 Nq4
  refine go _ (T4.setTop (mkF m 25 #[.val (.int p0), .val (.int p1), .val (.int p2), .val (.int vn), .val (.ref r1), .val (.int vl), .unset, .unset] [(.int (Int32.ofNat (3 * nn - 2)))])) (fun t k => st4.trans k) ?_
  refine go _ (T4.setTop (mkF m 27 #[.val (.int p0), .val (.int p1), .val (.int p2), .val (.int vn), .val (.ref r1), .val (.int vl), .unset, .unset] [(.int vl), (.int (Int32.ofNat (3 * nn - 2)))])) (fun t k => XS.iload X4.here hx rfl (hb hby at_25) rfl k) ?_
  have hc27 : (Int32.ofNat (3 * nn - 2)) = vl := by exact (own_ofn hl).symm
  refine go _ (T4.setTop (mkF m 32 #[.val (.int p0), .val (.int p1), .val (.int p2), .val (.int vn), .val (.ref r1), .val (.int vl), .unset, .unset] [])) (fun t k => XS.icmpYes X4.here hx rfl (pc0 := 27) (pc' := 32) rfl (hb hby at_27) rfl (teq hc27).1 (by decide) (by decide) k) ?_
  refine go _ (T4.setTop (mkF m 33 #[.val (.int p0), .val (.int p1), .val (.int p2), .val (.int vn), .val (.ref r1), .val (.int vl), .unset, .unset] [(.int p1)])) (fun t k => XS.iloadN X4.here hx rfl (hb hby at_32) rfl k) ?_
  refine go _ (T4.setTop (mkF m 35 #[.val (.int p0), .val (.int p1), .val (.int p2), .val (.int vn), .val (.ref r1), .val (.int vl), .unset, .unset] [(.int (2147483647 : Int32)), (.int p1)])) (fun t k => X4.ldcInt hx hown (mvT hZ (hw _ (List.mem_of_getElem? (i := 137) rfl))) (g := (mkF m 33 #[.val (.int p0), .val (.int p1), .val (.int p2), .val (.int vn), .val (.ref r1), .val (.int vl), .unset, .unset] [(.int p1)])) rfl (hb hby at_33) _ k) ?_
  refine go _ (T4.setTop (mkF m 36 #[.val (.int p0), .val (.int p1), .val (.int p2), .val (.int vn), .val (.ref r1), .val (.int vl), .unset, .unset] [(.int (p1 &&& (2147483647 : Int32)))])) (fun t k => XS.iand X4.here hx rfl (hb hby at_35) rfl k) ?_
  refine go _ (T4.setTop (mkF m 38 #[.val (.int p0), .val (.int p1), .val (.int p2), .val (.int vn), .val (.ref r1), .val (.int vl), .unset, .unset] [(.int vl), (.int (p1 &&& (2147483647 : Int32)))])) (fun t k => XS.iload X4.here hx rfl (hb hby at_36) rfl k) ?_
  refine go _ (T4.setTop (mkF m 39 #[.val (.int p0), .val (.int p1), .val (.int p2), .val (.int vn), .val (.ref r1), .val (.int vl), .unset, .unset] [(.int ((p1 &&& (2147483647 : Int32)) % vl))])) (fun t k => iremM X4 hx rfl (hb hby at_38) rfl (show vl ≠ 0 from (by intro q; have := (own_eqn hl (n := 0) (by decide)).mp q; omega)) k) ?_
  generalize hv_vi : ((p1 &&& (2147483647 : Int32)) % vl) = vi
  obtain ⟨ni, hi, bi⟩ := own_remn (q := p1) hl (by omega)
  rw [hv_vi] at hi
  refine go _ (T4.setTop (mkF m 41 #[.val (.int p0), .val (.int p1), .val (.int p2), .val (.int vn), .val (.ref r1), .val (.int vl), .val (.int vi), .unset] [])) (fun t k => XS.istore X4.here hx rfl (hb hby at_39) rfl (l' := #[.val (.int p0), .val (.int p1), .val (.int p2), .val (.int vn), .val (.ref r1), .val (.int vl), .val (.int vi), .unset]) rfl k) ?_
  refine go _ (T4.setTop (mkF m 42 #[.val (.int p0), .val (.int p1), .val (.int p2), .val (.int vn), .val (.ref r1), .val (.int vl), .val (.int vi), .unset] [(.int p2)])) (fun t k => XS.iloadN X4.here hx rfl (hb hby at_41) rfl k) ?_
  refine go _ (T4.setTop (mkF m 44 #[.val (.int p0), .val (.int p1), .val (.int p2), .val (.int vn), .val (.ref r1), .val (.int vl), .val (.int vi), .unset] [(.int (2147483647 : Int32)), (.int p2)])) (fun t k => X4.ldcInt hx hown (mvT hZ (hw _ (List.mem_of_getElem? (i := 137) rfl))) (g := (mkF m 42 #[.val (.int p0), .val (.int p1), .val (.int p2), .val (.int vn), .val (.ref r1), .val (.int vl), .val (.int vi), .unset] [(.int p2)])) rfl (hb hby at_42) _ k) ?_
  refine go _ (T4.setTop (mkF m 45 #[.val (.int p0), .val (.int p1), .val (.int p2), .val (.int vn), .val (.ref r1), .val (.int vl), .val (.int vi), .unset] [(.int (p2 &&& (2147483647 : Int32)))])) (fun t k => XS.iand X4.here hx rfl (hb hby at_44) rfl k) ?_
  refine go _ (T4.setTop (mkF m 47 #[.val (.int p0), .val (.int p1), .val (.int p2), .val (.int vn), .val (.ref r1), .val (.int vl), .val (.int vi), .unset] [(.int vl), (.int (p2 &&& (2147483647 : Int32)))])) (fun t k => XS.iload X4.here hx rfl (hb hby at_45) rfl k) ?_
  refine go _ (T4.setTop (mkF m 48 #[.val (.int p0), .val (.int p1), .val (.int p2), .val (.int vn), .val (.ref r1), .val (.int vl), .val (.int vi), .unset] [(.int ((p2 &&& (2147483647 : Int32)) % vl))])) (fun t k => iremM X4 hx rfl (hb hby at_47) rfl (show vl ≠ 0 from (by intro q; have := (own_eqn hl (n := 0) (by decide)).mp q; omega)) k) ?_
  generalize hv_vj : ((p2 &&& (2147483647 : Int32)) % vl) = vj
  obtain ⟨nj, hj, bj⟩ := own_remn (q := p2) hl (by omega)
  rw [hv_vj] at hj
  refine go _ (T4.setTop (mkF m 50 #[.val (.int p0), .val (.int p1), .val (.int p2), .val (.int vn), .val (.ref r1), .val (.int vl), .val (.int vi), .val (.int vj)] [])) (fun t k => XS.istore X4.here hx rfl (hb hby at_48) rfl (l' := #[.val (.int p0), .val (.int p1), .val (.int p2), .val (.int vn), .val (.ref r1), .val (.int vl), .val (.int vi), .val (.int vj)]) rfl k) ?_
  refine go _ (T4.setTop (mkF m 52 #[.val (.int p0), .val (.int p1), .val (.int p2), .val (.int vn), .val (.ref r1), .val (.int vl), .val (.int vi), .val (.int vj)] [(.ref r1)])) (fun t k => XS.aload X4.here hx rfl (hb hby at_50) rfl rfl k) ?_
  refine go _ (T4.setTop (mkF m 54 #[.val (.int p0), .val (.int p1), .val (.int p2), .val (.int vn), .val (.ref r1), .val (.int vl), .val (.int vi), .val (.int vj)] [(.int vi), (.ref r1)])) (fun t k => XS.iload X4.here hx rfl (hb hby at_52) rfl k) ?_
  have PS5 : own_St Z n0 T1.heap := PS.keep ((Keep.refl h0 []).trans K1 all0) own_ge0
  obtain ⟨cq6, kq6, q6a, q6b, q6c⟩ := isOf hZ eq4 Ex1
  obtain ⟨_, _, ⟨T6, L6, k6, n6⟩, -, X6, ⟨Lc6, hQ6, l6, y6, z6⟩, st6⟩ := X4.virtualBack hx (y := (⟨"java/lang/String", "charAt", "(I)C"⟩ : MethodName)) (z := (⟨"java/lang/String", "charAt", "(I)C"⟩ : MethodName)) hown (mvT hZ (hw _ (List.mem_of_getElem? (i := 138) rfl))) (mvT hZ (hw _ (List.mem_of_getElem? (i := 139) rfl))) (notFace_of_selects (args := #[]) (mvT hZ (hw _ (List.mem_of_getElem? (i := 141) rfl)))) (mvT hZ (hw _ (List.mem_of_getElem? (i := 141) rfl))) (mvT hZ (hw _ (List.mem_of_getElem? (i := 140) rfl))) (by decide) (backOf (W := 0) (rm25 l Z a0 hw [] r1 vi nb1 (3 * nn - 2) ff1 ni (own_exp ni) T1.heap n0 Z3z PS5 Ex1 Fc1 Fv1 An1 hi bi (by omega) (ag1 ni bi) (own_exp3 _)) hZ (hw _ (List.mem_of_getElem? (i := 142) rfl)) (hw _ (List.mem_of_getElem? (i := 20) rfl)) (by decide) (by decide)) q6a q6c (g := (mkF m 54 #[.val (.int p0), .val (.int p1), .val (.int p2), .val (.int vn), .val (.ref r1), .val (.int vl), .val (.int vi), .val (.int vj)] [(.int vi), (.ref r1)])) rfl (by rw [hml]; rfl) (Steps.refl _) (argsL := [(.int vi)]) (rest := []) (lenOf own_pd_25 rfl) rfl (by show 2 * 0 + _ ≤ _; exact Nat.le_of_eq rfl) (hb hby at_54) (fun _ _ => ⟨rfl, eq4, (by decide : 11 + 0 ≤ _), (by decide : 652 + 0 ≤ _)⟩)
  dsimp only [Pt.U, Pt.locs, Pt.cells, Pt.slots] at X6 l6 y6 z6 st6 hQ6
  subst l6 y6 z6
  obtain ⟨rfl, Nq6, eq6⟩ := hQ6
  have N6 := Fr.app N4 Nq6
  refine go _ (T6.setTop (mkF m 57 #[.val (.int p0), .val (.int p1), .val (.int p2), .val (.int vn), .val (.ref r1), .val (.int vl), .val (.int vi), .val (.int vj)] [(.int (own_exp ni))])) (fun t k => st6.trans k) ?_
  refine go _ (T6.setTop (mkF m 59 #[.val (.int p0), .val (.int p1), .val (.int p2), .val (.int vn), .val (.ref r1), .val (.int vl), .val (.int vi), .val (.int vj)] [(.int vi), (.int (own_exp ni))])) (fun t k => XS.iload X6.here hx rfl (hb hby at_57) rfl k) ?_
  obtain ⟨_, _, ⟨T7, L7, k7, n7⟩, -, X7, ⟨Lc7, hQ7, l7, y7, z7⟩, st7⟩ := Jvm.LawKit.callS X6 hx (y := (⟨"com/example/postledger/postledger/SqlPlaceholdersPinLaw", "expectedAt", "(I)C"⟩ : MethodName)) hown (mvT hZ (hw _ (List.mem_of_getElem? (i := 160) rfl))) (mvT hZ (hw _ (List.mem_of_getElem? (i := 161) rfl))) (mvT hZ (hw _ (List.mem_of_getElem? (i := 162) rfl))) (mvT hZ (hw _ (List.mem_of_getElem? (i := 163) rfl))) (by decide) (backOf (W := 1) (rm30 l Z a0 hw [] vi ni T1.heap n0 Z3z hi) hZ (hw _ (List.mem_of_getElem? (i := 163) rfl)) (hw _ (List.mem_of_getElem? (i := 162) rfl)) (by decide) (by decide)) (g := (mkF m 59 #[.val (.int p0), .val (.int p1), .val (.int p2), .val (.int vn), .val (.ref r1), .val (.int vl), .val (.int vi), .val (.int vj)] [(.int vi), (.int (own_exp ni))])) rfl (by rw [hml]; rfl) (argsL := [(.int vi)]) (rest := [(.int (own_exp ni))]) (lenOf own_pd_25 rfl) rfl (by show 2 * 0 + _ ≤ _; exact Nat.le_of_eq rfl) (hb hby at_59) (fun _ _ => ⟨rfl, eq6, (by decide : 11 + 0 ≤ _), (by decide : 652 + 0 ≤ _)⟩)
  dsimp only [Pt.U, Pt.locs, Pt.cells, Pt.slots] at X7 l7 y7 z7 st7 hQ7
  subst l7 y7 z7
  obtain ⟨rfl, Nq7, eq7⟩ := hQ7
  have N7 := Fr.app N6 Nq7
  refine go _ (T7.setTop (mkF m 62 #[.val (.int p0), .val (.int p1), .val (.int p2), .val (.int vn), .val (.ref r1), .val (.int vl), .val (.int vi), .val (.int vj)] [(.int (own_exp ni)), (.int (own_exp ni))])) st7 ?_
  have hc62 : (own_exp ni) = (own_exp ni) := by rfl
  refine go _ (T7.setTop (mkF m 67 #[.val (.int p0), .val (.int p1), .val (.int p2), .val (.int vn), .val (.ref r1), .val (.int vl), .val (.int vi), .val (.int vj)] [])) (fun t k => XS.icmpYes X7.here hx rfl (pc0 := 62) (pc' := 67) rfl (hb hby at_62) rfl (teq hc62).1 (by decide) (by decide) k) ?_
  refine go _ (T7.setTop (mkF m 69 #[.val (.int p0), .val (.int p1), .val (.int p2), .val (.int vn), .val (.ref r1), .val (.int vl), .val (.int vi), .val (.int vj)] [(.ref r1)])) (fun t k => XS.aload X7.here hx rfl (hb hby at_67) rfl rfl k) ?_
  refine go _ (T7.setTop (mkF m 71 #[.val (.int p0), .val (.int p1), .val (.int p2), .val (.int vn), .val (.ref r1), .val (.int vl), .val (.int vi), .val (.int vj)] [(.int vj), (.ref r1)])) (fun t k => XS.iload X7.here hx rfl (hb hby at_69) rfl k) ?_
  have PS8 : own_St Z n0 T1.heap := PS.keep ((Keep.refl h0 []).trans K1 all0) own_ge0
  obtain ⟨cq9, kq9, q9a, q9b, q9c⟩ := isOf hZ eq7 Ex1
  obtain ⟨_, _, ⟨T9, L9, k9, n9⟩, -, X9, ⟨Lc9, hQ9, l9, y9, z9⟩, st9⟩ := X7.virtualBack hx (y := (⟨"java/lang/String", "charAt", "(I)C"⟩ : MethodName)) (z := (⟨"java/lang/String", "charAt", "(I)C"⟩ : MethodName)) hown (mvT hZ (hw _ (List.mem_of_getElem? (i := 138) rfl))) (mvT hZ (hw _ (List.mem_of_getElem? (i := 139) rfl))) (notFace_of_selects (args := #[]) (mvT hZ (hw _ (List.mem_of_getElem? (i := 141) rfl)))) (mvT hZ (hw _ (List.mem_of_getElem? (i := 141) rfl))) (mvT hZ (hw _ (List.mem_of_getElem? (i := 140) rfl))) (by decide) (backOf (W := 0) (rm25 l Z a0 hw [] r1 vj nb1 (3 * nn - 2) ff1 nj (own_exp nj) T1.heap n0 Z3z PS8 Ex1 Fc1 Fv1 An1 hj bj (by omega) (ag1 nj bj) (own_exp3 _)) hZ (hw _ (List.mem_of_getElem? (i := 142) rfl)) (hw _ (List.mem_of_getElem? (i := 20) rfl)) (by decide) (by decide)) q9a q9c (g := (mkF m 71 #[.val (.int p0), .val (.int p1), .val (.int p2), .val (.int vn), .val (.ref r1), .val (.int vl), .val (.int vi), .val (.int vj)] [(.int vj), (.ref r1)])) rfl (by rw [hml]; rfl) (Steps.refl _) (argsL := [(.int vj)]) (rest := []) (lenOf own_pd_25 rfl) rfl (by show 2 * 0 + _ ≤ _; exact Nat.le_of_eq rfl) (hb hby at_71) (fun _ _ => ⟨rfl, eq7, (by decide : 11 + 0 ≤ _), (by decide : 652 + 0 ≤ _)⟩)
  dsimp only [Pt.U, Pt.locs, Pt.cells, Pt.slots] at X9 l9 y9 z9 st9 hQ9
  subst l9 y9 z9
  obtain ⟨rfl, Nq9, eq9⟩ := hQ9
  have N9 := Fr.app N7 Nq9
  refine go _ (T9.setTop (mkF m 74 #[.val (.int p0), .val (.int p1), .val (.int p2), .val (.int vn), .val (.ref r1), .val (.int vl), .val (.int vi), .val (.int vj)] [(.int (own_exp nj))])) (fun t k => st9.trans k) ?_
  refine go _ (T9.setTop (mkF m 76 #[.val (.int p0), .val (.int p1), .val (.int p2), .val (.int vn), .val (.ref r1), .val (.int vl), .val (.int vi), .val (.int vj)] [(.int vj), (.int (own_exp nj))])) (fun t k => XS.iload X9.here hx rfl (hb hby at_74) rfl k) ?_
  obtain ⟨_, _, ⟨T10, L10, k10, n10⟩, -, X10, ⟨Lc10, hQ10, l10, y10, z10⟩, st10⟩ := Jvm.LawKit.callS X9 hx (y := (⟨"com/example/postledger/postledger/SqlPlaceholdersPinLaw", "expectedAt", "(I)C"⟩ : MethodName)) hown (mvT hZ (hw _ (List.mem_of_getElem? (i := 160) rfl))) (mvT hZ (hw _ (List.mem_of_getElem? (i := 161) rfl))) (mvT hZ (hw _ (List.mem_of_getElem? (i := 162) rfl))) (mvT hZ (hw _ (List.mem_of_getElem? (i := 163) rfl))) (by decide) (backOf (W := 1) (rm30 l Z a0 hw [] vj nj T1.heap n0 Z3z hj) hZ (hw _ (List.mem_of_getElem? (i := 163) rfl)) (hw _ (List.mem_of_getElem? (i := 162) rfl)) (by decide) (by decide)) (g := (mkF m 76 #[.val (.int p0), .val (.int p1), .val (.int p2), .val (.int vn), .val (.ref r1), .val (.int vl), .val (.int vi), .val (.int vj)] [(.int vj), (.int (own_exp nj))])) rfl (by rw [hml]; rfl) (argsL := [(.int vj)]) (rest := [(.int (own_exp nj))]) (lenOf own_pd_25 rfl) rfl (by show 2 * 0 + _ ≤ _; exact Nat.le_of_eq rfl) (hb hby at_76) (fun _ _ => ⟨rfl, eq9, (by decide : 11 + 0 ≤ _), (by decide : 652 + 0 ≤ _)⟩)
  dsimp only [Pt.U, Pt.locs, Pt.cells, Pt.slots] at X10 l10 y10 z10 st10 hQ10
  subst l10 y10 z10
  obtain ⟨rfl, Nq10, eq10⟩ := hQ10
  have N10 := Fr.app N9 Nq10
  refine go _ (T10.setTop (mkF m 79 #[.val (.int p0), .val (.int p1), .val (.int p2), .val (.int vn), .val (.ref r1), .val (.int vl), .val (.int vi), .val (.int vj)] [(.int (own_exp nj)), (.int (own_exp nj))])) st10 ?_
  have hc79 : (own_exp nj) = (own_exp nj) := by rfl
  refine go _ (T10.setTop (mkF m 84 #[.val (.int p0), .val (.int p1), .val (.int p2), .val (.int vn), .val (.ref r1), .val (.int vl), .val (.int vi), .val (.int vj)] [])) (fun t k => XS.icmpYes X10.here hx rfl (pc0 := 79) (pc' := 84) rfl (hb hby at_79) rfl (teq hc79).1 (by decide) (by decide) k) ?_
  refine go _ (T10.setTop (mkF m 86 #[.val (.int p0), .val (.int p1), .val (.int p2), .val (.int vn), .val (.ref r1), .val (.int vl), .val (.int vi), .val (.int vj)] [(.ref r1)])) (fun t k => XS.aload X10.here hx rfl (hb hby at_84) rfl rfl k) ?_
  refine go _ (T10.setTop (mkF m 87 #[.val (.int p0), .val (.int p1), .val (.int p2), .val (.int vn), .val (.ref r1), .val (.int vl), .val (.int vi), .val (.int vj)] [(.int (0 : Int32)), (.ref r1)])) (fun t k => XS.iconst X10.here hx rfl (hb hby at_86) k) ?_
  have PS11 : own_St Z n0 T1.heap := PS.keep ((Keep.refl h0 []).trans K1 all0) own_ge0
  obtain ⟨cq12, kq12, q12a, q12b, q12c⟩ := isOf hZ eq10 Ex1
  obtain ⟨_, _, ⟨T12, L12, k12, n12⟩, -, X12, ⟨Lc12, hQ12, l12, y12, z12⟩, st12⟩ := X10.virtualBack hx (y := (⟨"java/lang/String", "charAt", "(I)C"⟩ : MethodName)) (z := (⟨"java/lang/String", "charAt", "(I)C"⟩ : MethodName)) hown (mvT hZ (hw _ (List.mem_of_getElem? (i := 138) rfl))) (mvT hZ (hw _ (List.mem_of_getElem? (i := 139) rfl))) (notFace_of_selects (args := #[]) (mvT hZ (hw _ (List.mem_of_getElem? (i := 141) rfl)))) (mvT hZ (hw _ (List.mem_of_getElem? (i := 141) rfl))) (mvT hZ (hw _ (List.mem_of_getElem? (i := 140) rfl))) (by decide) (backOf (W := 0) (rm25 l Z a0 hw [] r1 (0 : Int32) nb1 (3 * nn - 2) ff1 0 (own_exp 0) T1.heap n0 Z3z PS11 Ex1 Fc1 Fv1 An1 (by decide) (by omega) (by omega) (ag1 0 (by omega)) (own_exp3 _)) hZ (hw _ (List.mem_of_getElem? (i := 142) rfl)) (hw _ (List.mem_of_getElem? (i := 20) rfl)) (by decide) (by decide)) q12a q12c (g := (mkF m 87 #[.val (.int p0), .val (.int p1), .val (.int p2), .val (.int vn), .val (.ref r1), .val (.int vl), .val (.int vi), .val (.int vj)] [(.int (0 : Int32)), (.ref r1)])) rfl (by rw [hml]; rfl) (Steps.refl _) (argsL := [(.int (0 : Int32))]) (rest := []) (lenOf own_pd_25 rfl) rfl (by show 2 * 0 + _ ≤ _; exact Nat.le_of_eq rfl) (hb hby at_87) (fun _ _ => ⟨rfl, eq10, (by decide : 11 + 0 ≤ _), (by decide : 652 + 0 ≤ _)⟩)
  dsimp only [Pt.U, Pt.locs, Pt.cells, Pt.slots] at X12 l12 y12 z12 st12 hQ12
  subst l12 y12 z12
  obtain ⟨rfl, Nq12, eq12⟩ := hQ12
  have N12 := Fr.app N10 Nq12
  refine go _ (T12.setTop (mkF m 90 #[.val (.int p0), .val (.int p1), .val (.int p2), .val (.int vn), .val (.ref r1), .val (.int vl), .val (.int vi), .val (.int vj)] [(.int (own_exp 0))])) (fun t k => st12.trans k) ?_
  refine go _ (T12.setTop (mkF m 92 #[.val (.int p0), .val (.int p1), .val (.int p2), .val (.int vn), .val (.ref r1), .val (.int vl), .val (.int vi), .val (.int vj)] [(.int (63 : Int32)), (.int (own_exp 0))])) (fun t k => XS.bipush X12.here hx rfl (hb hby at_90) k) ?_
  have hc92 : (own_exp 0) = (63 : Int32) := by rfl
  refine go _ (T12.setTop (mkF m 95 #[.val (.int p0), .val (.int p1), .val (.int p2), .val (.int vn), .val (.ref r1), .val (.int vl), .val (.int vi), .val (.int vj)] [])) (fun t k => XS.icmpNo X12.here hx rfl (hb hby at_92) rfl (teq hc92).2 k) ?_
  refine go _ (T12.setTop (mkF m 97 #[.val (.int p0), .val (.int p1), .val (.int p2), .val (.int vn), .val (.ref r1), .val (.int vl), .val (.int vi), .val (.int vj)] [(.ref r1)])) (fun t k => XS.aload X12.here hx rfl (hb hby at_95) rfl rfl k) ?_
  refine go _ (T12.setTop (mkF m 99 #[.val (.int p0), .val (.int p1), .val (.int p2), .val (.int vn), .val (.ref r1), .val (.int vl), .val (.int vi), .val (.int vj)] [(.int vl), (.ref r1)])) (fun t k => XS.iload X12.here hx rfl (hb hby at_97) rfl k) ?_
  refine go _ (T12.setTop (mkF m 100 #[.val (.int p0), .val (.int p1), .val (.int p2), .val (.int vn), .val (.ref r1), .val (.int vl), .val (.int vi), .val (.int vj)] [(.int (1 : Int32)), (.int vl), (.ref r1)])) (fun t k => XS.iconst X12.here hx rfl (hb hby at_99) k) ?_
  refine go _ (T12.setTop (mkF m 101 #[.val (.int p0), .val (.int p1), .val (.int p2), .val (.int vn), .val (.ref r1), .val (.int vl), .val (.int vi), .val (.int vj)] [(.int (vl - (1 : Int32))), (.ref r1)])) (fun t k => XS.isub X12.here hx rfl (hb hby at_100) rfl k) ?_
  have PS13 : own_St Z n0 T1.heap := PS.keep ((Keep.refl h0 []).trans K1 all0) own_ge0
  obtain ⟨cq14, kq14, q14a, q14b, q14c⟩ := isOf hZ eq12 Ex1
  obtain ⟨_, _, ⟨T14, L14, k14, n14⟩, -, X14, ⟨Lc14, hQ14, l14, y14, z14⟩, st14⟩ := X12.virtualBack hx (y := (⟨"java/lang/String", "charAt", "(I)C"⟩ : MethodName)) (z := (⟨"java/lang/String", "charAt", "(I)C"⟩ : MethodName)) hown (mvT hZ (hw _ (List.mem_of_getElem? (i := 138) rfl))) (mvT hZ (hw _ (List.mem_of_getElem? (i := 139) rfl))) (notFace_of_selects (args := #[]) (mvT hZ (hw _ (List.mem_of_getElem? (i := 141) rfl)))) (mvT hZ (hw _ (List.mem_of_getElem? (i := 141) rfl))) (mvT hZ (hw _ (List.mem_of_getElem? (i := 140) rfl))) (by decide) (backOf (W := 0) (rm25 l Z a0 hw [] r1 (vl - (1 : Int32)) nb1 (3 * nn - 2) ff1 (3 * nn - 3) (own_exp (3 * nn - 3)) T1.heap n0 Z3z PS13 Ex1 Fc1 Fv1 An1 (by have q := own_subn hl (k := (1 : Int32)) (n := 1) (by decide) (by omega) (by omega); omega) (by omega) (by omega) (ag1 (3 * nn - 3) (by omega)) (own_exp3 _)) hZ (hw _ (List.mem_of_getElem? (i := 142) rfl)) (hw _ (List.mem_of_getElem? (i := 20) rfl)) (by decide) (by decide)) q14a q14c (g := (mkF m 101 #[.val (.int p0), .val (.int p1), .val (.int p2), .val (.int vn), .val (.ref r1), .val (.int vl), .val (.int vi), .val (.int vj)] [(.int (vl - (1 : Int32))), (.ref r1)])) rfl (by rw [hml]; rfl) (Steps.refl _) (argsL := [(.int (vl - (1 : Int32)))]) (rest := []) (lenOf own_pd_25 rfl) rfl (by show 2 * 0 + _ ≤ _; exact Nat.le_of_eq rfl) (hb hby at_101) (fun _ _ => ⟨rfl, eq12, (by decide : 11 + 0 ≤ _), (by decide : 652 + 0 ≤ _)⟩)
  dsimp only [Pt.U, Pt.locs, Pt.cells, Pt.slots] at X14 l14 y14 z14 st14 hQ14
  subst l14 y14 z14
  obtain ⟨rfl, Nq14, eq14⟩ := hQ14
  have N14 := Fr.app N12 Nq14
  refine go _ (T14.setTop (mkF m 104 #[.val (.int p0), .val (.int p1), .val (.int p2), .val (.int vn), .val (.ref r1), .val (.int vl), .val (.int vi), .val (.int vj)] [(.int (own_exp (3 * nn - 3)))])) (fun t k => st14.trans k) ?_
  refine go _ (T14.setTop (mkF m 106 #[.val (.int p0), .val (.int p1), .val (.int p2), .val (.int vn), .val (.ref r1), .val (.int vl), .val (.int vi), .val (.int vj)] [(.int (63 : Int32)), (.int (own_exp (3 * nn - 3)))])) (fun t k => XS.bipush X14.here hx rfl (hb hby at_104) k) ?_
  have hc106 : (own_exp (3 * nn - 3)) = (63 : Int32) := by exact own_exp_last hn1
  refine go _ (T14.setTop (mkF m 109 #[.val (.int p0), .val (.int p1), .val (.int p2), .val (.int vn), .val (.ref r1), .val (.int vl), .val (.int vi), .val (.int vj)] [])) (fun t k => XS.icmpNo X14.here hx rfl (hb hby at_106) rfl (teq hc106).2 k) ?_
  refine go _ (T14.setTop (mkF m 110 #[.val (.int p0), .val (.int p1), .val (.int p2), .val (.int vn), .val (.ref r1), .val (.int vl), .val (.int vi), .val (.int vj)] [(.int (1 : Int32))])) (fun t k => XS.iconst X14.here hx rfl (hb hby at_109) k) ?_
  refine go _ (T14.setTop (mkF m 114 #[.val (.int p0), .val (.int p1), .val (.int p2), .val (.int vn), .val (.ref r1), .val (.int vl), .val (.int vi), .val (.int vj)] [(.int (1 : Int32))])) (fun t k => XS.goto X14.here hx rfl (pc0 := 110) (pc' := 114) rfl (hb hby at_110) (by decide) (by decide) k) ?_
  refine fin (some (.int (1 : Int32))) (mkF m 114 #[.val (.int p0), .val (.int p1), .val (.int p2), .val (.int vn), .val (.ref r1), .val (.int vl), .val (.int vi), .val (.int vj)] [(.int (1 : Int32))]) X14 hS (by rw [eq14]; exact hk) (fun h => by cases h) (fun fs hr => retOut X14 hx (t := .boolean) hret rfl (Or.inl ⟨rfl, by simp, _, rfl⟩) (hb hby at_114) hr) ?_ (by decide) (by decide)
  exact ⟨rfl, N14⟩
set_option maxRecDepth 65536 in
set_option maxHeartbeats 40000000 in
theorem comes_1 {Post : Tables → Env → Array Value → State → Outcome → State → Prop} (hpost : ∀ tb e args s v u, (limb_1_1.after args s (.returned v) u = true ∧ limb_1_2.after args s (.returned v) u = true ∧ True) → ReturnedEndW s (.returned v) u (Jvm.fieldLocs frame_1_writes args s ++ Jvm.arrayLocs frame_1_arrays args s ++ Jvm.staticLocs frame_1_statics s) 32 4352 → Post tb e args s (.returned v) u) :
    ArmFor flags0 classFile x code maxLocals ret World_1 tables_1 room_1 Calls_1 rest_1 Pre_1 Post := by
  intro l hfl _ _ p e ha hc hk s m args below hf hA hF happ hP
  obtain ⟨hcalls, hrest, hpre⟩ := hP
  obtain ⟨-, -, -, hnamed, -, -, -, hat⟩ := (Spec.applies_iff hf).mp happ
  obtain ⟨hg, hn⟩ := and_e (Cond.before_iff.mp (show (Jvm.Cond.and given_1 narrow_1).before args s = true from hpre))
  obtain ⟨gg1, gg2⟩ := and_e hg
  obtain ⟨gg3, gg4⟩ := and_e gg2
  obtain ⟨gg5, gg6⟩ := and_e gg4
  obtain ⟨w0, w1, w2, rfl⟩ : ∃ w0 w1 w2 : Value, args = #[w0, w1, w2] := by
    have hs : args.size = 3 := by simpa [Cond.value, given_1] using gg1
    obtain ⟨L⟩ := args
    match L, hs with
    | [w0, w1, w2], _ => exact ⟨w0, w1, w2, rfl⟩
  have hw := fun d (hd : d ∈ tables_1) => atoms_spec (ws := Jvm.Cond.code x code maxLocals ret :: tables_1) hat d (List.mem_cons_of_mem _ hd)
  have hfit : Fit s := fun {y c} hc i hi => by
    obtain ⟨ha, rfl⟩ := Array.getElem?_eq_some_iff.mp hc
    have q := List.all_eq_true.mp ((Array.all_eq_true_iff_forall_mem.mp hF) _ (Array.getElem_mem ha)) i (List.mem_range.mpr hi)
    simpa [Array.getElem?_eq_getElem hi] using q
  obtain ⟨i0, ei0⟩ := is_v gg3
  obtain rfl : w0 = (.int i0) := Option.some.inj ei0
  obtain ⟨i1, ei1⟩ := is_v gg5
  obtain rfl : w1 = (.int i1) := Option.some.inj ei1
  obtain ⟨i2, ei2⟩ := is_v gg6
  obtain rfl : w2 = (.int i2) := Option.some.inj ei2
  obtain ⟨hsets, hown0⟩ := atoms_of _ (rest_1_c_eq ▸ (show rest_1_c.before _ s = true from hrest))
  have n3 := not_v (Cond.before_iff.mp (hsets _ (List.mem_of_getElem? (i := 2) rfl)))
  obtain ⟨i7, e6⟩ := is_v (Cond.before_iff.mp (hsets _ (List.mem_of_getElem? (i := 1) rfl)))
  have S8 : Sta s s.heap "java/lang/String" "COMPACT_STRINGS" "Z" (.int i7) := Sta.start e6 (Or.inl (hsets _ (List.mem_of_getElem? (i := 0) rfl)))
  obtain ⟨v9, e10, r11⟩ := isR_v (Cond.before_iff.mp (hsets _ (List.mem_of_getElem? (i := 8) rfl)))
  have S12 : Sta s s.heap "jdk/internal/util/Preconditions" "SIOOBE_FORMATTER" "Ljava/util/function/BiFunction;" v9 := Sta.start e10 (Or.inl (hsets _ (List.mem_of_getElem? (i := 7) rfl)))
  have c13 : ¬ (i7 = (0 : Int32)) := gotF (Cond.eq_ints e6 (Term.int_eval (0))) n3
  have hPS : own_St s s.heap.size s.heap := ⟨⟨i7, c13, own_Sa.of S8⟩, v9, r11, own_Sa.of S12⟩
  have hCH : CHv s consts_1 s.vm s.heap := CHv.start (own_EL hw) (fun p hp => hcalls.1 p hp) (hsets _ (List.mem_of_getElem? (i := 2) rfl)) (hw _ (List.mem_of_getElem? (i := 21) rfl)) (hw _ (List.mem_of_getElem? (i := 27) rfl))
  obtain ⟨n, o, h1, h2, h3, _, L, rfl, ⟨rfl, N⟩, hq⟩ := rm0 l s _ hw tables_1 i0 i1 i2 s.heap s.heap.size (Nat.le_refl _) hPS p e ha hc hk s m _ below hf ((Spec.applies_iff_loose hf).mp happ).1 ⟨rfl, State.Warmed39.refl s, rfl, hCH⟩ trivial
  refine ⟨n, _, h1, h2, h3, hpost _ _ _ _ _ _ ⟨Cond.after_iff.mpr rfl, Cond.after_iff.mpr (eq_i res_at (Term.int_eval (1)) rfl), trivial⟩ ⟨hq.1, hq.2.1, hq.2.2.1, (hq.2.2.2.sift fun y hy => Or.inr (N y hy)).mono (by decide) (by decide)⟩⟩
theorem main_1_1 : Claimed_1_1 := comes_1 fun _ _ _ _ _ _ h hF => ⟨h.1, hF⟩
theorem main_1_2 : Claimed_1_2 := comes_1 fun _ _ _ _ _ _ h hF => ⟨h.2.1, hF⟩
end Jvm.Pilot.@@N@@
namespace Jvm.Pilot.@@N@@
open Jvm Jvm.ClassFile Sem Op Lib Jvm.Free Jvm.Stand Jvm.Pilot.@@N@@.Jvm.D
/-! MADE BY PROGRAM (witnessworld.py) out of the Statement's table words and the real class files: 23 classes; the members and pool entries that the words name. The judged class is class 1, her method 2. -/
namespace start1
open Jvm.ClassFile
def u (s : String) : CpInfo := .utf8 (stringToUtf16 s)
/-- a pool by its gaps: so many unusable entries, then the entry; so many at the end -/
def gap : Nat → List CpInfo → List CpInfo
  | 0, r => r
  | n + 1, r => .unusable :: gap n r
def poolList (es : List (Nat × CpInfo)) (last : Nat) : List CpInfo := es.foldr (fun e r => gap e.1 (e.2 :: r)) (gap last [])
def pool (es : List (Nat × CpInfo)) (last : Nat) : Array CpInfo := ⟨poolList es last⟩
def fileOf (pool : Array CpInfo) (this : Nat) (attrs : Array Attribute := #[]) (ms : Array MethodInfo := #[]) (fl : Nat := 33) (sup : Nat := 0) (ifs : Array Nat := #[]) (fds : Array FieldInfo := #[]) : ClassFile where
  minorVersion := 0
  majorVersion := 65
  constantPool := pool
  accessFlags := fl
  thisClass := this
  superClass := sup
  interfaces := ifs
  fields := fds
  methods := ms
  attributes := attrs
def plain (name : String) (sup : Option ClassId) : Class where
  name := name
  kind := .ordinary
  loader := none
  accessFlags := 33
  super := sup
  interfaces := #[]
  cf := none
  fields := #[]
  methods := #[]
  instanceTypes := #[]
  staticTypes := #[]
  resolved := #[]
  callSites := []
  init := .initialized
  statics := none
  mirror := none

def pool0 : Array CpInfo := pool [(5, u "<init>"), (0, u "()V"), (1, .class_ 10), (1, u "java/lang/Object"), (85, u "clone"), (0, u "()Ljava/lang/Object;")] 26

def k0c0 : Code := { maxStack := 0, maxLocals := 1, code := object_method_1_code, exceptionTable := #[], attributes := #[] }
def k0m0 : Method := { name := "<init>", desc := "()V", sig := { parameters := [], returnType := none }, accessFlags := 1, code := some k0c0 }
def k0m1 : Method := { name := "clone", desc := "()Ljava/lang/Object;", sig := { parameters := [], returnType := some (.object "java/lang/Object") }, accessFlags := 260, code := none }
/-- java/lang/Object -/
def k0 : Class := { plain "java/lang/Object" none with
  accessFlags := 33
  interfaces := #[]
  cf := some (fileOf pool0 8 #[] #[{ accessFlags := 1, nameIndex := 5, descriptorIndex := 6, attributes := #[] }, { accessFlags := 260, nameIndex := 96, descriptorIndex := 97, attributes := #[] }] 33 0 #[] #[])
  fields := #[]
  methods := #[k0m0, k0m1]
  instanceTypes := #[]
  staticTypes := #[]
  resolved := Array.replicate 124 none
  statics := none }

def pool1 : Array CpInfo := pool [(2, .class_ 4), (1, u "java/lang/Object"), (0, u "<init>"), (0, u "()V"), (0, .methodref 8 9), (0, .class_ 10), (0, .nameAndType 11 12), (0, u "com/example/postledger/postledger/Sql"), (0, u "placeholders"), (0, u "(I)Ljava/lang/String;"), (0, .methodref 14 15), (0, .class_ 16), (0, .nameAndType 17 18), (0, u "java/lang/String"), (0, u "length"), (0, u "()I"), (0, .integer 2147483647), (0, .methodref 14 21), (0, .nameAndType 22 23), (0, u "charAt"), (0, u "(I)C"), (0, .methodref 25 26), (0, .class_ 27), (0, .nameAndType 28 23), (0, u "com/example/postledger/postledger/SqlPlaceholdersPinLaw"), (0, u "expectedAt"), (3, u "law"), (0, u "(III)Z")] 2

def k1m0 : Method := { name := "<init>", desc := "()V", sig := { parameters := [], returnType := none }, accessFlags := 2, code := none }
def k1c1 : Code := { maxStack := 2, maxLocals := 2, code := method_2_code, exceptionTable := #[], attributes := #[] }
def k1m1 : Method := { name := "expectedAt", desc := "(I)C", sig := { parameters := [.int], returnType := some .char }, accessFlags := 10, code := some k1c1 }
def k1c2 : Code := { maxStack := 3, maxLocals := 8, code := code, exceptionTable := #[], attributes := #[] }
def k1m2 : Method := { name := "law", desc := "(III)Z", sig := { parameters := [.int, .int, .int], returnType := some .boolean }, accessFlags := 9, code := some k1c2 }
/-- com/example/postledger/postledger/SqlPlaceholdersPinLaw -/
def k1 : Class := { plain "com/example/postledger/postledger/SqlPlaceholdersPinLaw" (some 0) with
  accessFlags := 49
  interfaces := #[]
  cf := some (fileOf pool1 25 #[] #[{ accessFlags := 2, nameIndex := 5, descriptorIndex := 6, attributes := #[] }, { accessFlags := 10, nameIndex := 28, descriptorIndex := 23, attributes := #[] }, { accessFlags := 9, nameIndex := 32, descriptorIndex := 33, attributes := #[] }] 49 2 #[] #[])
  fields := #[]
  methods := #[k1m0, k1m1, k1m2]
  instanceTypes := #[]
  staticTypes := #[]
  resolved := Array.replicate 36 none
  statics := none }

def pool2 : Array CpInfo := pool [(2, .class_ 4), (0, .nameAndType 5 6), (0, u "java/lang/Object"), (0, u "<init>"), (0, u "()V"), (0, .class_ 8), (0, u "java/lang/StringBuilder"), (0, .methodref 7 3), (0, .string 11), (0, u "?"), (0, .methodref 7 13), (0, .nameAndType 14 15), (0, u "append"), (0, u "(Ljava/lang/String;)Ljava/lang/StringBuilder;"), (0, .string 17), (0, u ", ?"), (0, .methodref 19 20), (0, .class_ 21), (0, .nameAndType 22 23), (0, u "java/lang/String"), (0, u "repeat"), (0, u "(I)Ljava/lang/String;"), (0, .methodref 7 25), (0, .nameAndType 26 27), (0, u "toString"), (0, u "()Ljava/lang/String;"), (31, .class_ 61), (1, u "com/example/postledger/postledger/Sql"), (9, u "placeholders"), (14, .class_ 87), (0, u "com/example/postledger/postledger/Sql$Index")] 2

def k2m0 : Method := { name := "<init>", desc := "()V", sig := { parameters := [], returnType := none }, accessFlags := 2, code := none }
def k2c1 : Code := { maxStack := 4, maxLocals := 1, code := prog_16_method_2_code, exceptionTable := #[], attributes := #[] }
def k2m1 : Method := { name := "placeholders", desc := "(I)Ljava/lang/String;", sig := { parameters := [.int], returnType := some (.object "java/lang/String") }, accessFlags := 8, code := some k2c1 }
/-- com/example/postledger/postledger/Sql -/
def k2 : Class := { plain "com/example/postledger/postledger/Sql" (some 0) with
  accessFlags := 48
  interfaces := #[]
  cf := some (fileOf pool2 59 #[.nestMembers #[86]] #[{ accessFlags := 2, nameIndex := 5, descriptorIndex := 6, attributes := #[] }, { accessFlags := 8, nameIndex := 71, descriptorIndex := 23, attributes := #[] }] 48 2 #[] #[])
  fields := #[]
  methods := #[k2m0, k2m1]
  instanceTypes := #[]
  staticTypes := #[]
  resolved := Array.replicate 90 none
  statics := none }

def pool3 : Array CpInfo := pool [(1, .class_ 2), (0, u "java/lang/Appendable"), (0, .class_ 4), (0, u "java/lang/Object")] 9

/-- java/lang/Appendable -/
def k3 : Class := { plain "java/lang/Appendable" (some 0) with
  accessFlags := 1537
  interfaces := #[]
  cf := some (fileOf pool3 1 #[] #[] 1537 3 #[] #[])
  fields := #[]
  methods := #[]
  instanceTypes := #[]
  staticTypes := #[]
  resolved := Array.replicate 14 none
  statics := none }

def pool4 : Array CpInfo := pool [(2, .class_ 4), (1, u "java/lang/CharSequence"), (42, .class_ 48), (0, u "java/lang/CharSequence$1CodePointIterator"), (10, .class_ 60), (0, u "java/lang/CharSequence$1CharIterator"), (5, .class_ 67), (0, u "java/lang/Object")] 63

/-- java/lang/CharSequence -/
def k4 : Class := { plain "java/lang/CharSequence" (some 0) with
  accessFlags := 1537
  interfaces := #[]
  cf := some (fileOf pool4 2 #[.nestMembers #[47, 59]] #[] 1537 66 #[] #[])
  fields := #[]
  methods := #[]
  instanceTypes := #[]
  staticTypes := #[]
  resolved := Array.replicate 131 none
  statics := none }

def pool5 : Array CpInfo := pool [(1, .class_ 2), (0, u "java/lang/String"), (0, .methodref 4 5), (0, .class_ 6), (0, .nameAndType 7 8), (0, u "java/lang/Object"), (0, u "<init>"), (0, u "()V"), (1, .class_ 12), (1, u "java/lang/AbstractStringBuilder"), (0, u "EMPTYVALUE"), (0, u "[B"), (0, .fieldref 10 16), (0, .nameAndType 17 14), (0, u "value"), (0, .fieldref 1 19), (0, .nameAndType 20 21), (0, u "COMPACT_STRINGS"), (0, u "Z"), (0, .fieldref 10 23), (0, .nameAndType 24 25), (0, u "coder"), (0, u "B"), (6, .methodref 1 33), (0, .nameAndType 34 35), (0, u "length"), (0, u "()I"), (3, .integer 2147483647), (0, .methodref 1 41), (0, .nameAndType 24 42), (0, u "()B"), (2, u "append"), (0, u "(Ljava/lang/String;)Ljava/lang/AbstractStringBuilder;"), (1, .class_ 49), (0, u "java/lang/CharSequence"), (19, u "(Ljava/lang/String;)V"), (5, u "maybeLatin1"), (3, .fieldref 10 80), (0, .nameAndType 81 82), (0, u "count"), (0, u "I"), (2, u "isLatin1"), (0, u "()Z"), (13, .methodref 10 101), (0, .nameAndType 102 103), (0, u "ensureCapacityInternal"), (0, u "(I)V"), (0, .methodref 10 105), (0, .nameAndType 106 107), (0, u "newCapacity"), (0, u "(I)I"), (0, .methodref 109 110), (0, .class_ 111), (0, .nameAndType 112 113), (0, u "java/util/Arrays"), (0, u "copyOf"), (0, u "([BI)[B"), (0, .methodref 115 116), (0, .class_ 117), (0, .nameAndType 118 119), (0, u "jdk/internal/util/ArraysSupport"), (0, u "newLength"), (0, u "(III)I"), (88, .methodref 10 209), (0, .nameAndType 210 211), (0, u "putStringAt"), (0, u "(ILjava/lang/String;)V"), (5, u "inflateIfNeededFor"), (2, .nameAndType 221 222), (0, u "getBytes"), (0, u "([BIB)V"), (174, .methodref 10 398), (0, .nameAndType 217 69), (0, .methodref 1 220), (3, u "()[B"), (40, .class_ 445), (0, u "java/lang/Appendable"), (106, u "getValue")] 56

def k5m0 : Method := { name := "<init>", desc := "()V", sig := { parameters := [], returnType := none }, accessFlags := 0, code := none }
def k5c1 : Code := { maxStack := 2, maxLocals := 2, code := jdk_68_method_2_code, exceptionTable := #[], attributes := #[] }
def k5m1 : Method := { name := "<init>", desc := "(I)V", sig := { parameters := [.int], returnType := none }, accessFlags := 0, code := some k5c1 }
def k5c2 : Code := { maxStack := 1, maxLocals := 1, code := jdk_68_method_6_code, exceptionTable := #[], attributes := #[] }
def k5m2 : Method := { name := "length", desc := "()I", sig := { parameters := [], returnType := some .int }, accessFlags := 1, code := some k5c2 }
def k5c3 : Code := { maxStack := 4, maxLocals := 3, code := jdk_68_method_9_code, exceptionTable := #[], attributes := #[] }
def k5m3 : Method := { name := "ensureCapacityInternal", desc := "(I)V", sig := { parameters := [.int], returnType := none }, accessFlags := 2, code := some k5c3 }
def k5c4 : Code := { maxStack := 5, maxLocals := 6, code := jdk_68_method_10_code, exceptionTable := #[], attributes := #[] }
def k5m4 : Method := { name := "newCapacity", desc := "(I)I", sig := { parameters := [.int], returnType := some .int }, accessFlags := 2, code := some k5c4 }
def k5c5 : Code := { maxStack := 3, maxLocals := 3, code := jdk_68_method_22_code, exceptionTable := #[], attributes := #[] }
def k5m5 : Method := { name := "append", desc := "(Ljava/lang/String;)Ljava/lang/AbstractStringBuilder;", sig := { parameters := [(.object "java/lang/String")], returnType := some (.object "java/lang/AbstractStringBuilder") }, accessFlags := 1, code := some k5c5 }
def k5c6 : Code := { maxStack := 1, maxLocals := 1, code := jdk_68_method_64_code, exceptionTable := #[], attributes := #[] }
def k5m6 : Method := { name := "getValue", desc := "()[B", sig := { parameters := [], returnType := some (.array .byte) }, accessFlags := 16, code := some k5c6 }
def k5c7 : Code := { maxStack := 1, maxLocals := 1, code := jdk_68_method_68_code, exceptionTable := #[], attributes := #[] }
def k5m7 : Method := { name := "isLatin1", desc := "()Z", sig := { parameters := [], returnType := some .boolean }, accessFlags := 16, code := some k5c7 }
def k5c8 : Code := { maxStack := 2, maxLocals := 2, code := jdk_68_method_71_code, exceptionTable := #[], attributes := #[] }
def k5m8 : Method := { name := "inflateIfNeededFor", desc := "(Ljava/lang/String;)V", sig := { parameters := [(.object "java/lang/String")], returnType := none }, accessFlags := 2, code := some k5c8 }
def k5c9 : Code := { maxStack := 4, maxLocals := 3, code := jdk_68_method_73_code, exceptionTable := #[], attributes := #[] }
def k5m9 : Method := { name := "putStringAt", desc := "(ILjava/lang/String;)V", sig := { parameters := [.int, (.object "java/lang/String")], returnType := none }, accessFlags := 2, code := some k5c9 }
/-- java/lang/AbstractStringBuilder -/
def k5 : Class := { plain "java/lang/AbstractStringBuilder" (some 0) with
  accessFlags := 1056
  interfaces := #[3, 4]
  cf := some (fileOf pool5 10 #[] #[{ accessFlags := 0, nameIndex := 7, descriptorIndex := 8, attributes := #[] }, { accessFlags := 0, nameIndex := 7, descriptorIndex := 103, attributes := #[] }, { accessFlags := 1, nameIndex := 34, descriptorIndex := 35, attributes := #[] }, { accessFlags := 2, nameIndex := 102, descriptorIndex := 103, attributes := #[] }, { accessFlags := 2, nameIndex := 106, descriptorIndex := 107, attributes := #[] }, { accessFlags := 1, nameIndex := 45, descriptorIndex := 46, attributes := #[] }, { accessFlags := 16, nameIndex := 552, descriptorIndex := 403, attributes := #[] }, { accessFlags := 16, nameIndex := 85, descriptorIndex := 86, attributes := #[] }, { accessFlags := 2, nameIndex := 217, descriptorIndex := 69, attributes := #[] }, { accessFlags := 2, nameIndex := 210, descriptorIndex := 211, attributes := #[] }] 1056 4 #[444, 48] #[{ accessFlags := 0, nameIndex := 17, descriptorIndex := 14, attributes := #[] }, { accessFlags := 0, nameIndex := 24, descriptorIndex := 25, attributes := #[] }, { accessFlags := 0, nameIndex := 75, descriptorIndex := 21, attributes := #[] }, { accessFlags := 0, nameIndex := 81, descriptorIndex := 82, attributes := #[] }, { accessFlags := 26, nameIndex := 13, descriptorIndex := 14, attributes := #[] }])
  fields := #[{ name := "value", type := (.array .byte), accessFlags := 0, slot := 0, constantValue := 0 }, { name := "coder", type := .byte, accessFlags := 0, slot := 1, constantValue := 0 }, { name := "maybeLatin1", type := .boolean, accessFlags := 0, slot := 2, constantValue := 0 }, { name := "count", type := .int, accessFlags := 0, slot := 3, constantValue := 0 }, { name := "EMPTYVALUE", type := (.array .byte), accessFlags := 26, slot := 0, constantValue := 0 }]
  methods := #[k5m0, k5m1, k5m2, k5m3, k5m4, k5m5, k5m6, k5m7, k5m8, k5m9]
  instanceTypes := #[(.array .byte), .byte, .boolean, .int]
  staticTypes := #[(.array .byte)]
  resolved := Array.replicate 609 none
  statics := none }

def pool6 : Array CpInfo := pool [(1, .class_ 2), (0, u "java/io/Serializable"), (0, .class_ 4), (0, u "java/lang/Object")] 2

/-- java/io/Serializable -/
def k6 : Class := { plain "java/io/Serializable" (some 0) with
  accessFlags := 1537
  interfaces := #[]
  cf := some (fileOf pool6 1 #[] #[] 1537 3 #[] #[])
  fields := #[]
  methods := #[]
  instanceTypes := #[]
  staticTypes := #[]
  resolved := Array.replicate 7 none
  statics := none }

def pool7 : Array CpInfo := pool [(1, .class_ 2), (0, u "java/lang/Comparable"), (0, .class_ 4), (0, u "java/lang/Object")] 7

/-- java/lang/Comparable -/
def k7 : Class := { plain "java/lang/Comparable" (some 0) with
  accessFlags := 1537
  interfaces := #[]
  cf := some (fileOf pool7 1 #[] #[] 1537 3 #[] #[])
  fields := #[]
  methods := #[]
  instanceTypes := #[]
  staticTypes := #[]
  resolved := Array.replicate 12 none
  statics := none }

def pool8 : Array CpInfo := pool [(1, .methodref 2 3), (0, .class_ 4), (0, .nameAndType 5 6), (0, u "java/lang/AbstractStringBuilder"), (0, u "<init>"), (0, u "(I)V"), (11, .class_ 20), (1, u "java/lang/String"), (3, .class_ 26), (1, u "java/lang/StringBuilder"), (0, u "append"), (0, u "(Ljava/lang/String;)Ljava/lang/StringBuilder;"), (0, .methodref 2 30), (0, .nameAndType 27 31), (0, u "(Ljava/lang/String;)Ljava/lang/AbstractStringBuilder;"), (105, .methodref 18 138), (0, .nameAndType 5 139), (0, u "(Ljava/lang/StringBuilder;)V"), (5, u "()V"), (10, u "()I"), (186, .methodref 2 344), (0, .nameAndType 345 156), (0, u "length"), (3, .class_ 350), (0, u "java/lang/Appendable"), (0, .class_ 352), (0, u "java/io/Serializable"), (0, .class_ 354), (0, u "java/lang/Comparable"), (0, .class_ 356), (0, u "java/lang/CharSequence"), (0, u "serialVersionUID"), (0, u "J"), (40, u "toString"), (0, u "()Ljava/lang/String;")] 21

def k8c0 : Code := { maxStack := 2, maxLocals := 1, code := jdk_67_method_1_code, exceptionTable := #[], attributes := #[] }
def k8m0 : Method := { name := "<init>", desc := "()V", sig := { parameters := [], returnType := none }, accessFlags := 1, code := some k8c0 }
def k8c1 : Code := { maxStack := 2, maxLocals := 2, code := jdk_67_method_7_code, exceptionTable := #[], attributes := #[] }
def k8m1 : Method := { name := "append", desc := "(Ljava/lang/String;)Ljava/lang/StringBuilder;", sig := { parameters := [(.object "java/lang/String")], returnType := some (.object "java/lang/StringBuilder") }, accessFlags := 1, code := some k8c1 }
def k8c2 : Code := { maxStack := 3, maxLocals := 1, code := jdk_67_method_42_code, exceptionTable := #[], attributes := #[] }
def k8m2 : Method := { name := "toString", desc := "()Ljava/lang/String;", sig := { parameters := [], returnType := some (.object "java/lang/String") }, accessFlags := 1, code := some k8c2 }
def k8c3 : Code := { maxStack := 1, maxLocals := 1, code := jdk_67_method_93_code, exceptionTable := #[], attributes := #[] }
def k8m3 : Method := { name := "length", desc := "()I", sig := { parameters := [], returnType := some .int }, accessFlags := 4161, code := some k8c3 }
/-- java/lang/StringBuilder -/
def k8 : Class := { plain "java/lang/StringBuilder" (some 5) with
  accessFlags := 49
  interfaces := #[3, 6, 7, 4]
  cf := some (fileOf pool8 24 #[] #[{ accessFlags := 1, nameIndex := 5, descriptorIndex := 145, attributes := #[] }, { accessFlags := 1, nameIndex := 27, descriptorIndex := 28, attributes := #[] }, { accessFlags := 1, nameIndex := 399, descriptorIndex := 400, attributes := #[] }, { accessFlags := 4161, nameIndex := 345, descriptorIndex := 156, attributes := #[] }] 49 2 #[349, 351, 353, 355] #[{ accessFlags := 24, nameIndex := 357, descriptorIndex := 358, attributes := #[] }])
  fields := #[{ name := "serialVersionUID", type := .long, accessFlags := 24, slot := 0, constantValue := 0 }]
  methods := #[k8m0, k8m1, k8m2, k8m3]
  instanceTypes := #[(.array .byte), .byte, .boolean, .int]
  staticTypes := #[.long]
  resolved := Array.replicate 422 none
  statics := none }

def pool9 : Array CpInfo := pool [(1, .class_ 2), (0, u "java/lang/constant/Constable"), (0, .class_ 4), (0, u "java/lang/Object")] 6

/-- java/lang/constant/Constable -/
def k9 : Class := { plain "java/lang/constant/Constable" (some 0) with
  accessFlags := 1537
  interfaces := #[]
  cf := some (fileOf pool9 1 #[] #[] 1537 3 #[] #[])
  fields := #[]
  methods := #[]
  instanceTypes := #[]
  staticTypes := #[]
  resolved := Array.replicate 11 none
  statics := none }

def pool10 : Array CpInfo := pool [(1, .class_ 2), (0, u "java/lang/constant/ConstantDesc"), (0, .class_ 4), (0, u "java/lang/Object")] 32

/-- java/lang/constant/ConstantDesc -/
def k10 : Class := { plain "java/lang/constant/ConstantDesc" (some 0) with
  accessFlags := 1537
  interfaces := #[]
  cf := some (fileOf pool10 1 #[] #[] 1537 3 #[] #[])
  fields := #[]
  methods := #[]
  instanceTypes := #[]
  staticTypes := #[]
  resolved := Array.replicate 37 none
  statics := none }

def pool11 : Array CpInfo := pool [(1, .methodref 2 3), (0, .class_ 4), (0, .nameAndType 5 6), (0, u "java/lang/Object"), (0, u "<init>"), (0, u "()V"), (0, .string 8), (0, u ""), (0, .fieldref 10 11), (0, .class_ 12), (0, .nameAndType 13 14), (0, u "java/lang/String"), (0, u "value"), (0, u "[B"), (0, .fieldref 10 16), (0, .nameAndType 17 18), (0, u "coder"), (0, u "B"), (2, u "hash"), (0, u "I"), (2, u "hashIsZero"), (0, u "Z"), (11, .fieldref 10 39), (0, .nameAndType 40 26), (0, u "COMPACT_STRINGS"), (13, .methodref 55 56), (0, .class_ 57), (0, .nameAndType 58 59), (0, u "java/util/Arrays"), (0, u "copyOfRange"), (0, u "([BII)[B"), (10, u "([BIII)V"), (36, .class_ 109), (1, u "java/lang/StringLatin1"), (32, u "()Z"), (50, .class_ 195), (1, u "java/lang/System"), (13, .methodref 10 210), (0, .nameAndType 5 211), (0, u "([BB)V"), (0, .methodref 193 213), (0, .nameAndType 214 215), (0, u "arraycopy"), (0, u "(Ljava/lang/Object;ILjava/lang/Object;II)V"), (118, u "()I"), (0, .methodref 10 336), (0, .nameAndType 17 337), (0, u "()B"), (2, u "()[B"), (22, u "([BI)C"), (27, u "(II)V"), (35, u "(I)C"), (61, .methodref 10 490), (0, .nameAndType 5 491), (0, u "(Ljava/lang/AbstractStringBuilder;Ljava/lang/Void;)V"), (0, .methodref 10 493), (0, .nameAndType 494 142), (0, u "isLatin1"), (0, .methodref 107 496), (0, .nameAndType 497 363), (0, u "charAt"), (3, u "checkIndex"), (4, .nameAndType 507 334), (0, u "length"), (24, u "getBytes"), (16, .methodref 550 506), (0, .class_ 551), (0, u "java/lang/AbstractStringBuilder"), (0, .methodref 550 553), (0, .nameAndType 554 340), (0, u "getValue"), (20, .class_ 576), (0, u "java/lang/CharSequence"), (22, u "CASE_INSENSITIVE_ORDER"), (0, u "Ljava/util/Comparator;"), (220, u "([BIB)V"), (69, u "repeat"), (0, u "(I)Ljava/lang/String;"), (50, .integer 2147483647), (100, .methodref 10 1045), (0, .nameAndType 1046 70), (0, u "repeatCopyRest"), (0, .methodref 550 493), (5, .fieldref 1054 1055), (0, .class_ 1056), (0, .nameAndType 1057 1058), (0, u "jdk/internal/util/Preconditions"), (0, u "SIOOBE_FORMATTER"), (0, u "Ljava/util/function/BiFunction;"), (0, .methodref 1054 1060), (0, .nameAndType 501 1061), (0, u "(IILjava/util/function/BiFunction;)I"), (39, u "serialPersistentFields"), (0, u "[Ljava/io/ObjectStreamField;"), (0, .class_ 1104), (0, u "java/lang/String$CaseInsensitiveComparator"), (1, .class_ 1107), (0, u "java/io/Serializable"), (0, .class_ 1109), (0, u "java/lang/Comparable"), (0, .class_ 1111), (0, u "java/lang/constant/Constable"), (0, .class_ 1113), (0, u "java/lang/constant/ConstantDesc"), (2, u "serialVersionUID"), (0, u "J"), (3, u "REPL"), (0, u "C"), (2, u "LATIN1"), (1, u "UTF16"), (105, u "(Ljava/lang/StringBuilder;)V")] 217

def k11m0 : Method := { name := "<init>", desc := "()V", sig := { parameters := [], returnType := none }, accessFlags := 1, code := none }
def k11c1 : Code := { maxStack := 3, maxLocals := 2, code := jdk_42_method_53_code, exceptionTable := #[], attributes := #[] }
def k11m1 : Method := { name := "<init>", desc := "(Ljava/lang/StringBuilder;)V", sig := { parameters := [(.object "java/lang/StringBuilder")], returnType := none }, accessFlags := 1, code := some k11c1 }
def k11c2 : Code := { maxStack := 2, maxLocals := 1, code := jdk_42_method_54_code, exceptionTable := #[], attributes := #[] }
def k11m2 : Method := { name := "length", desc := "()I", sig := { parameters := [], returnType := some .int }, accessFlags := 1, code := some k11c2 }
def k11c3 : Code := { maxStack := 2, maxLocals := 2, code := jdk_42_method_56_code, exceptionTable := #[], attributes := #[] }
def k11m3 : Method := { name := "charAt", desc := "(I)C", sig := { parameters := [.int], returnType := some .char }, accessFlags := 1, code := some k11c3 }
def k11c4 : Code := { maxStack := 5, maxLocals := 5, code := jdk_42_method_145_code, exceptionTable := #[], attributes := #[] }
def k11m4 : Method := { name := "repeat", desc := "(I)Ljava/lang/String;", sig := { parameters := [.int], returnType := some (.object "java/lang/String") }, accessFlags := 1, code := some k11c4 }
def k11c5 : Code := { maxStack := 6, maxLocals := 4, code := jdk_42_method_146_code, exceptionTable := #[], attributes := #[] }
def k11m5 : Method := { name := "repeatCopyRest", desc := "([BIII)V", sig := { parameters := [(.array .byte), .int, .int, .int], returnType := none }, accessFlags := 8, code := some k11c5 }
def k11c6 : Code := { maxStack := 5, maxLocals := 4, code := jdk_42_method_147_code, exceptionTable := #[], attributes := #[] }
def k11m6 : Method := { name := "getBytes", desc := "([BIB)V", sig := { parameters := [(.array .byte), .int, .byte], returnType := none }, accessFlags := 0, code := some k11c6 }
def k11c7 : Code := { maxStack := 5, maxLocals := 5, code := jdk_42_method_150_code, exceptionTable := #[], attributes := #[] }
def k11m7 : Method := { name := "<init>", desc := "(Ljava/lang/AbstractStringBuilder;Ljava/lang/Void;)V", sig := { parameters := [(.object "java/lang/AbstractStringBuilder"), (.object "java/lang/Void")], returnType := none }, accessFlags := 0, code := some k11c7 }
def k11c8 : Code := { maxStack := 2, maxLocals := 3, code := jdk_42_method_151_code, exceptionTable := #[], attributes := #[] }
def k11m8 : Method := { name := "<init>", desc := "([BB)V", sig := { parameters := [(.array .byte), .byte], returnType := none }, accessFlags := 0, code := some k11c8 }
def k11c9 : Code := { maxStack := 1, maxLocals := 1, code := jdk_42_method_152_code, exceptionTable := #[], attributes := #[] }
def k11m9 : Method := { name := "coder", desc := "()B", sig := { parameters := [], returnType := some .byte }, accessFlags := 0, code := some k11c9 }
def k11c10 : Code := { maxStack := 1, maxLocals := 1, code := jdk_42_method_154_code, exceptionTable := #[], attributes := #[] }
def k11m10 : Method := { name := "isLatin1", desc := "()Z", sig := { parameters := [], returnType := some .boolean }, accessFlags := 0, code := some k11c10 }
def k11c11 : Code := { maxStack := 3, maxLocals := 2, code := jdk_42_method_155_code, exceptionTable := #[], attributes := #[] }
def k11m11 : Method := { name := "checkIndex", desc := "(II)V", sig := { parameters := [.int, .int], returnType := none }, accessFlags := 8, code := some k11c11 }
/-- java/lang/String -/
def k11 : Class := { plain "java/lang/String" (some 0) with
  accessFlags := 49
  interfaces := #[6, 7, 4, 9, 10]
  cf := some (fileOf pool11 10 #[.nestMembers #[1103]] #[{ accessFlags := 1, nameIndex := 5, descriptorIndex := 6, attributes := #[] }, { accessFlags := 1, nameIndex := 5, descriptorIndex := 1233, attributes := #[] }, { accessFlags := 1, nameIndex := 507, descriptorIndex := 334, attributes := #[] }, { accessFlags := 1, nameIndex := 497, descriptorIndex := 427, attributes := #[] }, { accessFlags := 1, nameIndex := 891, descriptorIndex := 892, attributes := #[] }, { accessFlags := 8, nameIndex := 1046, descriptorIndex := 70, attributes := #[] }, { accessFlags := 0, nameIndex := 532, descriptorIndex := 821, attributes := #[] }, { accessFlags := 0, nameIndex := 5, descriptorIndex := 491, attributes := #[] }, { accessFlags := 0, nameIndex := 5, descriptorIndex := 211, attributes := #[] }, { accessFlags := 0, nameIndex := 17, descriptorIndex := 337, attributes := #[] }, { accessFlags := 0, nameIndex := 494, descriptorIndex := 142, attributes := #[] }, { accessFlags := 8, nameIndex := 501, descriptorIndex := 391, attributes := #[] }] 49 2 #[1106, 1108, 575, 1110, 1112] #[{ accessFlags := 18, nameIndex := 13, descriptorIndex := 14, attributes := #[] }, { accessFlags := 18, nameIndex := 17, descriptorIndex := 18, attributes := #[] }, { accessFlags := 2, nameIndex := 21, descriptorIndex := 22, attributes := #[] }, { accessFlags := 2, nameIndex := 25, descriptorIndex := 26, attributes := #[] }, { accessFlags := 26, nameIndex := 1116, descriptorIndex := 1117, attributes := #[] }, { accessFlags := 24, nameIndex := 40, descriptorIndex := 26, attributes := #[] }, { accessFlags := 26, nameIndex := 1101, descriptorIndex := 1102, attributes := #[] }, { accessFlags := 26, nameIndex := 1121, descriptorIndex := 1122, attributes := #[] }, { accessFlags := 25, nameIndex := 599, descriptorIndex := 600, attributes := #[] }, { accessFlags := 24, nameIndex := 1125, descriptorIndex := 18, attributes := #[] }, { accessFlags := 24, nameIndex := 1127, descriptorIndex := 18, attributes := #[] }])
  fields := #[{ name := "value", type := (.array .byte), accessFlags := 18, slot := 0, constantValue := 0 }, { name := "coder", type := .byte, accessFlags := 18, slot := 1, constantValue := 0 }, { name := "hash", type := .int, accessFlags := 2, slot := 2, constantValue := 0 }, { name := "hashIsZero", type := .boolean, accessFlags := 2, slot := 3, constantValue := 0 }, { name := "serialVersionUID", type := .long, accessFlags := 26, slot := 0, constantValue := 0 }, { name := "COMPACT_STRINGS", type := .boolean, accessFlags := 24, slot := 1, constantValue := 0 }, { name := "serialPersistentFields", type := (.array (.object "java/io/ObjectStreamField")), accessFlags := 26, slot := 2, constantValue := 0 }, { name := "REPL", type := .char, accessFlags := 26, slot := 3, constantValue := 0 }, { name := "CASE_INSENSITIVE_ORDER", type := (.object "java/util/Comparator"), accessFlags := 25, slot := 4, constantValue := 0 }, { name := "LATIN1", type := .byte, accessFlags := 24, slot := 5, constantValue := 0 }, { name := "UTF16", type := .byte, accessFlags := 24, slot := 6, constantValue := 0 }]
  methods := #[k11m0, k11m1, k11m2, k11m3, k11m4, k11m5, k11m6, k11m7, k11m8, k11m9, k11m10, k11m11]
  instanceTypes := #[(.array .byte), .byte, .int, .boolean]
  staticTypes := #[.long, .boolean, (.array (.object "java/io/ObjectStreamField")), .char, (.object "java/util/Comparator"), .byte, .byte]
  resolved := Array.replicate 1451 none
  statics := some 0 }

def pool12 : Array CpInfo := pool [(2, .class_ 4), (1, u "java/lang/Object"), (0, u "<init>"), (0, u "()V"), (1, .class_ 10), (1, u "java/lang/System"), (0, u "allowSecurityManager"), (0, u "I"), (16, u "cons"), (0, u "Ljava/io/Console;"), (77, .class_ 110), (1, u "java/lang/System$CallersHolder"), (43, u "initialErrStream"), (0, u "Ljava/io/PrintStream;"), (19, u "security"), (0, u "Ljava/lang/SecurityManager;"), (31, .class_ 209), (0, u "java/lang/System$1"), (7, u "props"), (0, u "Ljava/util/Properties;"), (2, u "lineSeparator"), (0, u "Ljava/lang/String;"), (96, .class_ 321), (1, u "java/lang/System$LoggerFinder"), (5, .class_ 328), (0, u "java/lang/System$Logger"), (67, u "err"), (2, u "out"), (91, u "notSupportedJnuEncoding"), (15, u "in"), (17, u "initialIn"), (0, u "Ljava/io/InputStream;"), (35, u "bootLayer"), (0, u "Ljava/lang/ModuleLayer;"), (99, .class_ 664), (0, u "java/lang/System$2"), (9, u "NEVER"), (2, u "MAYBE"), (49, u "arraycopy"), (0, u "(Ljava/lang/Object;ILjava/lang/Object;II)V"), (72, .class_ 802), (0, u "java/lang/System$Logger$Level")] 31

def k12m0 : Method := { name := "<init>", desc := "()V", sig := { parameters := [], returnType := none }, accessFlags := 2, code := none }
def k12m1 : Method := { name := "arraycopy", desc := "(Ljava/lang/Object;ILjava/lang/Object;II)V", sig := { parameters := [(.object "java/lang/Object"), .int, (.object "java/lang/Object"), .int, .int], returnType := none }, accessFlags := 265, code := none }
/-- java/lang/System -/
def k12 : Class := { plain "java/lang/System" (some 0) with
  accessFlags := 49
  interfaces := #[]
  cf := some (fileOf pool12 8 #[.nestMembers #[319, 327, 801, 108, 663, 208]] #[{ accessFlags := 2, nameIndex := 5, descriptorIndex := 6, attributes := #[] }, { accessFlags := 265, nameIndex := 727, descriptorIndex := 728, attributes := #[] }] 49 2 #[] #[{ accessFlags := 25, nameIndex := 507, descriptorIndex := 526, attributes := #[] }, { accessFlags := 25, nameIndex := 399, descriptorIndex := 155, attributes := #[] }, { accessFlags := 25, nameIndex := 396, descriptorIndex := 155, attributes := #[] }, { accessFlags := 10, nameIndex := 525, descriptorIndex := 526, attributes := #[] }, { accessFlags := 26, nameIndex := 674, descriptorIndex := 12, attributes := #[] }, { accessFlags := 26, nameIndex := 677, descriptorIndex := 12, attributes := #[] }, { accessFlags := 10, nameIndex := 11, descriptorIndex := 12, attributes := #[] }, { accessFlags := 74, nameIndex := 175, descriptorIndex := 176, attributes := #[] }, { accessFlags := 10, nameIndex := 491, descriptorIndex := 222, attributes := #[] }, { accessFlags := 74, nameIndex := 29, descriptorIndex := 30, attributes := #[] }, { accessFlags := 74, nameIndex := 154, descriptorIndex := 155, attributes := #[] }, { accessFlags := 10, nameIndex := 217, descriptorIndex := 218, attributes := #[] }, { accessFlags := 10, nameIndex := 221, descriptorIndex := 222, attributes := #[] }, { accessFlags := 8, nameIndex := 562, descriptorIndex := 563, attributes := #[] }])
  fields := #[{ name := "in", type := (.object "java/io/InputStream"), accessFlags := 25, slot := 0, constantValue := 0 }, { name := "out", type := (.object "java/io/PrintStream"), accessFlags := 25, slot := 1, constantValue := 0 }, { name := "err", type := (.object "java/io/PrintStream"), accessFlags := 25, slot := 2, constantValue := 0 }, { name := "initialIn", type := (.object "java/io/InputStream"), accessFlags := 10, slot := 3, constantValue := 0 }, { name := "NEVER", type := .int, accessFlags := 26, slot := 4, constantValue := 0 }, { name := "MAYBE", type := .int, accessFlags := 26, slot := 5, constantValue := 0 }, { name := "allowSecurityManager", type := .int, accessFlags := 10, slot := 6, constantValue := 0 }, { name := "security", type := (.object "java/lang/SecurityManager"), accessFlags := 74, slot := 7, constantValue := 0 }, { name := "notSupportedJnuEncoding", type := (.object "java/lang/String"), accessFlags := 10, slot := 8, constantValue := 0 }, { name := "cons", type := (.object "java/io/Console"), accessFlags := 74, slot := 9, constantValue := 0 }, { name := "initialErrStream", type := (.object "java/io/PrintStream"), accessFlags := 74, slot := 10, constantValue := 0 }, { name := "props", type := (.object "java/util/Properties"), accessFlags := 10, slot := 11, constantValue := 0 }, { name := "lineSeparator", type := (.object "java/lang/String"), accessFlags := 10, slot := 12, constantValue := 0 }, { name := "bootLayer", type := (.object "java/lang/ModuleLayer"), accessFlags := 8, slot := 13, constantValue := 0 }]
  methods := #[k12m0, k12m1]
  instanceTypes := #[]
  staticTypes := #[(.object "java/io/InputStream"), (.object "java/io/PrintStream"), (.object "java/io/PrintStream"), (.object "java/io/InputStream"), .int, .int, .int, (.object "java/lang/SecurityManager"), (.object "java/lang/String"), (.object "java/io/Console"), (.object "java/io/PrintStream"), (.object "java/util/Properties"), (.object "java/lang/String"), (.object "java/lang/ModuleLayer")]
  resolved := Array.replicate 834 none
  statics := none }

def pool13 : Array CpInfo := pool [(2, .class_ 4), (1, u "java/lang/Object"), (0, u "<init>"), (0, u "()V"), (7, .class_ 16), (1, u "java/util/Arrays"), (57, .class_ 76), (1, u "java/util/Arrays$NaturalOrder"), (32, u "()Ljava/lang/Object;"), (3, .class_ 115), (1, u "java/util/Arrays$LegacyMergeSort"), (1, u "Z"), (10, .nameAndType 129 109), (0, u "clone"), (9, u "copyOfRange"), (10, .methodref 151 152), (0, .class_ 153), (0, .nameAndType 154 155), (0, u "java/lang/System"), (0, u "arraycopy"), (0, u "(Ljava/lang/Object;ILjava/lang/Object;II)V"), (146, u "copyOf"), (1, .methodref 305 306), (0, .class_ 307), (0, .nameAndType 308 309), (0, u "java/lang/Math"), (0, u "min"), (0, u "(II)I"), (0, .methodref 311 128), (0, .class_ 312), (0, u "[B"), (26, .methodref 14 340), (0, .nameAndType 341 342), (0, u "copyOfRangeByte"), (0, u "([BII)[B"), (0, .methodref 14 344), (0, .nameAndType 345 346), (0, u "checkLength"), (0, u "(II)V"), (28, .class_ 376), (0, u "java/util/Arrays$ArrayList"), (68, u "$assertionsDisabled"), (269, u "MIN_ARRAY_SORT_GRAN"), (0, u "I"), (2, u "INSERTIONSORT_THRESHOLD"), (149, u "([BI)[B"), (105, .class_ 976), (0, u "java/util/Arrays$ArrayItr")] 52

def k13m0 : Method := { name := "<init>", desc := "()V", sig := { parameters := [], returnType := none }, accessFlags := 2, code := none }
def k13c1 : Code := { maxStack := 6, maxLocals := 3, code := jdk_65_method_121_code, exceptionTable := #[], attributes := #[] }
def k13m1 : Method := { name := "copyOf", desc := "([BI)[B", sig := { parameters := [(.array .byte), .int], returnType := some (.array .byte) }, accessFlags := 9, code := some k13c1 }
def k13c2 : Code := { maxStack := 4, maxLocals := 2, code := jdk_65_method_131_code, exceptionTable := #[], attributes := #[] }
def k13m2 : Method := { name := "checkLength", desc := "(II)V", sig := { parameters := [.int, .int], returnType := none }, accessFlags := 10, code := some k13c2 }
def k13c3 : Code := { maxStack := 3, maxLocals := 3, code := jdk_65_method_132_code, exceptionTable := #[], attributes := #[] }
def k13m3 : Method := { name := "copyOfRange", desc := "([BII)[B", sig := { parameters := [(.array .byte), .int, .int], returnType := some (.array .byte) }, accessFlags := 9, code := some k13c3 }
def k13c4 : Code := { maxStack := 6, maxLocals := 5, code := jdk_65_method_133_code, exceptionTable := #[], attributes := #[] }
def k13m4 : Method := { name := "copyOfRangeByte", desc := "([BII)[B", sig := { parameters := [(.array .byte), .int, .int], returnType := some (.array .byte) }, accessFlags := 10, code := some k13c4 }
/-- java/util/Arrays -/
def k13 : Class := { plain "java/util/Arrays" (some 0) with
  accessFlags := 49
  interfaces := #[]
  cf := some (fileOf pool13 14 #[.nestMembers #[975, 375, 113, 74]] #[{ accessFlags := 2, nameIndex := 5, descriptorIndex := 6, attributes := #[] }, { accessFlags := 9, nameIndex := 302, descriptorIndex := 869, attributes := #[] }, { accessFlags := 10, nameIndex := 345, descriptorIndex := 346, attributes := #[] }, { accessFlags := 9, nameIndex := 139, descriptorIndex := 342, attributes := #[] }, { accessFlags := 10, nameIndex := 341, descriptorIndex := 342, attributes := #[] }] 49 2 #[] #[{ accessFlags := 26, nameIndex := 715, descriptorIndex := 716, attributes := #[] }, { accessFlags := 26, nameIndex := 719, descriptorIndex := 716, attributes := #[] }, { accessFlags := 4120, nameIndex := 445, descriptorIndex := 117, attributes := #[] }])
  fields := #[{ name := "MIN_ARRAY_SORT_GRAN", type := .int, accessFlags := 26, slot := 0, constantValue := 0 }, { name := "INSERTIONSORT_THRESHOLD", type := .int, accessFlags := 26, slot := 1, constantValue := 0 }, { name := "$assertionsDisabled", type := .boolean, accessFlags := 4120, slot := 2, constantValue := 0 }]
  methods := #[k13m0, k13m1, k13m2, k13m3, k13m4]
  instanceTypes := #[]
  staticTypes := #[.int, .int, .boolean]
  resolved := Array.replicate 1029 none
  statics := none }

def pool14 : Array CpInfo := pool [(1, .class_ 2), (0, u "java/lang/Math"), (1, .class_ 6), (1, u "java/lang/Object"), (0, u "<init>"), (0, u "()V"), (89, .class_ 100), (1, u "java/lang/Math$RandomNumberGeneratorHolder"), (71, u "negativeZeroFloatBits"), (0, u "J"), (2, u "negativeZeroDoubleBits"), (21, u "max"), (2, u "min"), (43, u "$assertionsDisabled"), (0, u "Z"), (88, u "(II)I"), (2, u "twoToTheDoubleScaleDown"), (0, u "D"), (4, u "twoToTheDoubleScaleUp"), (9, u "E"), (3, u "PI"), (2, u "TAU"), (2, u "DEGREES_TO_RADIANS"), (0, u "RADIANS_TO_DEGREES")] 94

def k14m0 : Method := { name := "<init>", desc := "()V", sig := { parameters := [], returnType := none }, accessFlags := 2, code := none }
def k14c1 : Code := { maxStack := 2, maxLocals := 2, code := jdk_29_method_65_code, exceptionTable := #[], attributes := #[] }
def k14m1 : Method := { name := "max", desc := "(II)I", sig := { parameters := [.int, .int], returnType := some .int }, accessFlags := 9, code := some k14c1 }
def k14c2 : Code := { maxStack := 2, maxLocals := 2, code := jdk_29_method_69_code, exceptionTable := #[], attributes := #[] }
def k14m2 : Method := { name := "min", desc := "(II)I", sig := { parameters := [.int, .int], returnType := some .int }, accessFlags := 9, code := some k14c2 }
/-- java/lang/Math -/
def k14 : Class := { plain "java/lang/Math" (some 0) with
  accessFlags := 49
  interfaces := #[]
  cf := some (fileOf pool14 1 #[.nestMembers #[98]] #[{ accessFlags := 2, nameIndex := 7, descriptorIndex := 8, attributes := #[] }, { accessFlags := 9, nameIndex := 198, descriptorIndex := 335, attributes := #[] }, { accessFlags := 9, nameIndex := 201, descriptorIndex := 335, attributes := #[] }] 49 4 #[] #[{ accessFlags := 25, nameIndex := 354, descriptorIndex := 339, attributes := #[] }, { accessFlags := 25, nameIndex := 358, descriptorIndex := 339, attributes := #[] }, { accessFlags := 25, nameIndex := 361, descriptorIndex := 339, attributes := #[] }, { accessFlags := 26, nameIndex := 364, descriptorIndex := 339, attributes := #[] }, { accessFlags := 26, nameIndex := 365, descriptorIndex := 339, attributes := #[] }, { accessFlags := 26, nameIndex := 172, descriptorIndex := 173, attributes := #[] }, { accessFlags := 26, nameIndex := 176, descriptorIndex := 173, attributes := #[] }, { accessFlags := 8, nameIndex := 344, descriptorIndex := 339, attributes := #[] }, { accessFlags := 8, nameIndex := 338, descriptorIndex := 339, attributes := #[] }, { accessFlags := 4120, nameIndex := 245, descriptorIndex := 246, attributes := #[] }])
  fields := #[{ name := "E", type := .double, accessFlags := 25, slot := 0, constantValue := 0 }, { name := "PI", type := .double, accessFlags := 25, slot := 1, constantValue := 0 }, { name := "TAU", type := .double, accessFlags := 25, slot := 2, constantValue := 0 }, { name := "DEGREES_TO_RADIANS", type := .double, accessFlags := 26, slot := 3, constantValue := 0 }, { name := "RADIANS_TO_DEGREES", type := .double, accessFlags := 26, slot := 4, constantValue := 0 }, { name := "negativeZeroFloatBits", type := .long, accessFlags := 26, slot := 5, constantValue := 0 }, { name := "negativeZeroDoubleBits", type := .long, accessFlags := 26, slot := 6, constantValue := 0 }, { name := "twoToTheDoubleScaleUp", type := .double, accessFlags := 8, slot := 7, constantValue := 0 }, { name := "twoToTheDoubleScaleDown", type := .double, accessFlags := 8, slot := 8, constantValue := 0 }, { name := "$assertionsDisabled", type := .boolean, accessFlags := 4120, slot := 9, constantValue := 0 }]
  methods := #[k14m0, k14m1, k14m2]
  instanceTypes := #[]
  staticTypes := #[.double, .double, .double, .double, .double, .long, .long, .double, .double, .boolean]
  resolved := Array.replicate 460 none
  statics := none }

def pool15 : Array CpInfo := pool [(1, .class_ 2), (0, u "java/lang/String"), (1, .class_ 6), (1, u "java/lang/Object"), (0, u "<init>"), (0, u "()V"), (0, .methodref 1 10), (0, .nameAndType 11 12), (0, u "checkIndex"), (0, u "(II)V"), (1, .class_ 16), (1, u "java/lang/StringLatin1"), (36, u "([BI)C"), (67, u "$assertionsDisabled"), (0, u "Z"), (98, .class_ 223), (1, u "java/lang/StringLatin1$LinesSpliterator"), (28, u "charAt"), (137, .class_ 391), (0, u "java/lang/StringLatin1$CharsSpliterator")] 3

def k15m0 : Method := { name := "<init>", desc := "()V", sig := { parameters := [], returnType := none }, accessFlags := 0, code := none }
def k15c1 : Code := { maxStack := 2, maxLocals := 2, code := jdk_43_method_2_code, exceptionTable := #[], attributes := #[] }
def k15m1 : Method := { name := "charAt", desc := "([BI)C", sig := { parameters := [(.array .byte), .int], returnType := some .char }, accessFlags := 9, code := some k15c1 }
/-- java/lang/StringLatin1 -/
def k15 : Class := { plain "java/lang/StringLatin1" (some 0) with
  accessFlags := 48
  interfaces := #[]
  cf := some (fileOf pool15 14 #[.nestMembers #[390, 221]] #[{ accessFlags := 0, nameIndex := 7, descriptorIndex := 8, attributes := #[] }, { accessFlags := 9, nameIndex := 252, descriptorIndex := 53, attributes := #[] }] 48 4 #[] #[{ accessFlags := 4120, nameIndex := 121, descriptorIndex := 122, attributes := #[] }])
  fields := #[{ name := "$assertionsDisabled", type := .boolean, accessFlags := 4120, slot := 0, constantValue := 0 }]
  methods := #[k15m0, k15m1]
  instanceTypes := #[]
  staticTypes := #[.boolean]
  resolved := Array.replicate 395 none
  statics := none }

def pool16 : Array CpInfo := pool [(2, .class_ 4), (1, u "java/lang/Object"), (0, u "<init>"), (0, u "()V"), (17, .class_ 26), (1, u "jdk/internal/util/Preconditions"), (6, u "checkIndex"), (21, .class_ 56), (0, u "jdk/internal/util/Preconditions$4"), (57, .class_ 115), (0, u "jdk/internal/util/Preconditions$1"), (7, u "SIOOBE_FORMATTER"), (0, u "Ljava/util/function/BiFunction;"), (0, .class_ 126), (0, u "jdk/internal/util/Preconditions$2"), (3, u "AIOOBE_FORMATTER"), (0, .class_ 132), (0, u "jdk/internal/util/Preconditions$3"), (3, u "IOOBE_FORMATTER"), (41, u "(IILjava/util/function/BiFunction;)I")] 15

def k16m0 : Method := { name := "<init>", desc := "()V", sig := { parameters := [], returnType := none }, accessFlags := 1, code := none }
def k16c1 : Code := { maxStack := 3, maxLocals := 3, code := jdk_41_method_11_code, exceptionTable := #[], attributes := #[] }
def k16m1 : Method := { name := "checkIndex", desc := "(IILjava/util/function/BiFunction;)I", sig := { parameters := [.int, .int, (.object "java/util/function/BiFunction")], returnType := some .int }, accessFlags := 9, code := some k16c1 }
/-- jdk/internal/util/Preconditions -/
def k16 : Class := { plain "jdk/internal/util/Preconditions" (some 0) with
  accessFlags := 33
  interfaces := #[]
  cf := some (fileOf pool16 24 #[.nestMembers #[55, 131, 125, 114]] #[{ accessFlags := 1, nameIndex := 5, descriptorIndex := 6, attributes := #[] }, { accessFlags := 9, nameIndex := 33, descriptorIndex := 178, attributes := #[] }] 33 2 #[] #[{ accessFlags := 25, nameIndex := 123, descriptorIndex := 124, attributes := #[] }, { accessFlags := 25, nameIndex := 130, descriptorIndex := 124, attributes := #[] }, { accessFlags := 25, nameIndex := 136, descriptorIndex := 124, attributes := #[] }])
  fields := #[{ name := "SIOOBE_FORMATTER", type := (.object "java/util/function/BiFunction"), accessFlags := 25, slot := 0, constantValue := 0 }, { name := "AIOOBE_FORMATTER", type := (.object "java/util/function/BiFunction"), accessFlags := 25, slot := 1, constantValue := 0 }, { name := "IOOBE_FORMATTER", type := (.object "java/util/function/BiFunction"), accessFlags := 25, slot := 2, constantValue := 0 }]
  methods := #[k16m0, k16m1]
  instanceTypes := #[]
  staticTypes := #[(.object "java/util/function/BiFunction"), (.object "java/util/function/BiFunction"), (.object "java/util/function/BiFunction")]
  resolved := Array.replicate 194 none
  statics := some 1 }

def pool17 : Array CpInfo := pool [(9, u "<init>"), (6, .class_ 18), (1, u "java/lang/Object"), (0, u "()V"), (1, .class_ 23), (1, u "jdk/internal/util/ArraysSupport"), (0, u "LOG2_ARRAY_LONG_INDEX_SCALE"), (0, u "I"), (2, u "U"), (0, u "Ljdk/internal/misc/Unsafe;"), (8, u "BIG_ENDIAN"), (0, u "Z"), (8, u "LOG2_BYTE_BIT_SIZE"), (4, u "LOG2_ARRAY_INT_INDEX_SCALE"), (54, u "JLA"), (0, u "Ljdk/internal/access/JavaLangAccess;"), (11, u "LOG2_ARRAY_BOOLEAN_INDEX_SCALE"), (9, u "LOG2_ARRAY_BYTE_INDEX_SCALE"), (5, u "LOG2_ARRAY_CHAR_INDEX_SCALE"), (5, u "LOG2_ARRAY_SHORT_INDEX_SCALE"), (18, u "LOG2_ARRAY_FLOAT_INDEX_SCALE"), (24, u "LOG2_ARRAY_DOUBLE_INDEX_SCALE"), (6, .methodref 195 196), (0, .class_ 197), (0, .nameAndType 198 199), (0, u "java/lang/Math"), (0, u "max"), (0, u "(II)I"), (0, .integer 2147483639), (76, u "T_BOOLEAN"), (2, u "T_CHAR"), (1, u "T_FLOAT"), (1, u "T_DOUBLE"), (1, u "T_BYTE"), (1, u "T_SHORT"), (1, u "T_INT"), (1, u "T_LONG"), (1, u "SOFT_MAX_ARRAY_LENGTH"), (56, u "newLength"), (0, u "(III)I")] 25

def k17m0 : Method := { name := "<init>", desc := "()V", sig := { parameters := [], returnType := none }, accessFlags := 2, code := none }
def k17c1 : Code := { maxStack := 3, maxLocals := 4, code := jdk_48_method_27_code, exceptionTable := #[], attributes := #[] }
def k17m1 : Method := { name := "newLength", desc := "(III)I", sig := { parameters := [.int, .int, .int], returnType := some .int }, accessFlags := 9, code := some k17c1 }
/-- jdk/internal/util/ArraysSupport -/
def k17 : Class := { plain "jdk/internal/util/ArraysSupport" (some 0) with
  accessFlags := 33
  interfaces := #[]
  cf := some (fileOf pool17 21 #[] #[{ accessFlags := 2, nameIndex := 9, descriptorIndex := 19, attributes := #[] }, { accessFlags := 9, nameIndex := 351, descriptorIndex := 352, attributes := #[] }] 33 16 #[] #[{ accessFlags := 24, nameIndex := 28, descriptorIndex := 29, attributes := #[] }, { accessFlags := 26, nameIndex := 38, descriptorIndex := 39, attributes := #[] }, { accessFlags := 25, nameIndex := 121, descriptorIndex := 25, attributes := #[] }, { accessFlags := 25, nameIndex := 131, descriptorIndex := 25, attributes := #[] }, { accessFlags := 25, nameIndex := 137, descriptorIndex := 25, attributes := #[] }, { accessFlags := 25, nameIndex := 143, descriptorIndex := 25, attributes := #[] }, { accessFlags := 25, nameIndex := 53, descriptorIndex := 25, attributes := #[] }, { accessFlags := 25, nameIndex := 24, descriptorIndex := 25, attributes := #[] }, { accessFlags := 25, nameIndex := 162, descriptorIndex := 25, attributes := #[] }, { accessFlags := 25, nameIndex := 187, descriptorIndex := 25, attributes := #[] }, { accessFlags := 26, nameIndex := 48, descriptorIndex := 25, attributes := #[] }, { accessFlags := 25, nameIndex := 277, descriptorIndex := 25, attributes := #[] }, { accessFlags := 25, nameIndex := 280, descriptorIndex := 25, attributes := #[] }, { accessFlags := 25, nameIndex := 282, descriptorIndex := 25, attributes := #[] }, { accessFlags := 25, nameIndex := 284, descriptorIndex := 25, attributes := #[] }, { accessFlags := 25, nameIndex := 286, descriptorIndex := 25, attributes := #[] }, { accessFlags := 25, nameIndex := 288, descriptorIndex := 25, attributes := #[] }, { accessFlags := 25, nameIndex := 290, descriptorIndex := 25, attributes := #[] }, { accessFlags := 25, nameIndex := 292, descriptorIndex := 25, attributes := #[] }, { accessFlags := 26, nameIndex := 108, descriptorIndex := 109, attributes := #[] }, { accessFlags := 25, nameIndex := 294, descriptorIndex := 25, attributes := #[] }])
  fields := #[{ name := "U", type := (.object "jdk/internal/misc/Unsafe"), accessFlags := 24, slot := 0, constantValue := 0 }, { name := "BIG_ENDIAN", type := .boolean, accessFlags := 26, slot := 1, constantValue := 0 }, { name := "LOG2_ARRAY_BOOLEAN_INDEX_SCALE", type := .int, accessFlags := 25, slot := 2, constantValue := 0 }, { name := "LOG2_ARRAY_BYTE_INDEX_SCALE", type := .int, accessFlags := 25, slot := 3, constantValue := 0 }, { name := "LOG2_ARRAY_CHAR_INDEX_SCALE", type := .int, accessFlags := 25, slot := 4, constantValue := 0 }, { name := "LOG2_ARRAY_SHORT_INDEX_SCALE", type := .int, accessFlags := 25, slot := 5, constantValue := 0 }, { name := "LOG2_ARRAY_INT_INDEX_SCALE", type := .int, accessFlags := 25, slot := 6, constantValue := 0 }, { name := "LOG2_ARRAY_LONG_INDEX_SCALE", type := .int, accessFlags := 25, slot := 7, constantValue := 0 }, { name := "LOG2_ARRAY_FLOAT_INDEX_SCALE", type := .int, accessFlags := 25, slot := 8, constantValue := 0 }, { name := "LOG2_ARRAY_DOUBLE_INDEX_SCALE", type := .int, accessFlags := 25, slot := 9, constantValue := 0 }, { name := "LOG2_BYTE_BIT_SIZE", type := .int, accessFlags := 26, slot := 10, constantValue := 0 }, { name := "T_BOOLEAN", type := .int, accessFlags := 25, slot := 11, constantValue := 0 }, { name := "T_CHAR", type := .int, accessFlags := 25, slot := 12, constantValue := 0 }, { name := "T_FLOAT", type := .int, accessFlags := 25, slot := 13, constantValue := 0 }, { name := "T_DOUBLE", type := .int, accessFlags := 25, slot := 14, constantValue := 0 }, { name := "T_BYTE", type := .int, accessFlags := 25, slot := 15, constantValue := 0 }, { name := "T_SHORT", type := .int, accessFlags := 25, slot := 16, constantValue := 0 }, { name := "T_INT", type := .int, accessFlags := 25, slot := 17, constantValue := 0 }, { name := "T_LONG", type := .int, accessFlags := 25, slot := 18, constantValue := 0 }, { name := "JLA", type := (.object "jdk/internal/access/JavaLangAccess"), accessFlags := 26, slot := 19, constantValue := 0 }, { name := "SOFT_MAX_ARRAY_LENGTH", type := .int, accessFlags := 25, slot := 20, constantValue := 0 }]
  methods := #[k17m0, k17m1]
  instanceTypes := #[]
  staticTypes := #[(.object "jdk/internal/misc/Unsafe"), .boolean, .int, .int, .int, .int, .int, .int, .int, .int, .int, .int, .int, .int, .int, .int, .int, .int, .int, (.object "jdk/internal/access/JavaLangAccess"), .int]
  resolved := Array.replicate 378 none
  statics := none }

def pool18 : Array CpInfo := pool [(1, .class_ 2), (0, u "java/lang/Cloneable"), (0, .class_ 4), (0, u "java/lang/Object")] 2

/-- java/lang/Cloneable -/
def k18 : Class := { plain "java/lang/Cloneable" (some 0) with
  accessFlags := 1537
  interfaces := #[]
  cf := some (fileOf pool18 1 #[] #[] 1537 3 #[] #[])
  fields := #[]
  methods := #[]
  instanceTypes := #[]
  staticTypes := #[]
  resolved := Array.replicate 7 none
  statics := none }

/-- the primitive byte -/
def k19 : Class := { plain "byte" none with kind := .primitive 'B', accessFlags := 0x411 }
/-- [B -/
def k20 : Class := { plain "[B" (some 0) with kind := .array 19 .byte, interfaces := #[18, 6], accessFlags := 1041 }

/-- the primitive int -/
def k21 : Class := { plain "int" none with kind := .primitive 'I', accessFlags := 0x411 }
/-- [I -/
def k22 : Class := { plain "[I" (some 0) with kind := .array 21 .int, interfaces := #[18, 6], accessFlags := 1041 }

def heap : Heap := #[{ cls := 11, slots := #[.long 0, .int 1, .null, .int 0, .null, .int 0, .int 0], vm := .statics 11 },
  { cls := 16, slots := #[.null, .null, .null], vm := .statics 16 }]
def classes : Array Class := #[k0, k1, k2, k3, k4, k5, k6, k7, k8, k9, k10, k11, k12, k13, k14, k15, k16, k17, k18, k19, k20, k21, k22]
def interned : List (Array UInt16 × Addr) := []
def slotsUsed : Nat := 10
def theMethod : MethodId := ⟨1, 2⟩
def args0 : Array Value := #[.int 5, .int 2, .int 3]
def aboutOver (below : List Frame) : State where
  vm := { classes := classes, interned := interned.toArray }
  heap := heap
  slotsUsed := slotsUsed
  threads := #[{ frames := .invoking theMethod args0 :: below }]
def below0 : List Frame := [.native { method := ⟨0, 0⟩, args := #[] }]
def about1 : State := aboutOver below0
def p0 : Program := .bare "" "" ""
def e0 : Env := launch0.env 0 0 0
theorem w_frames : about1.frames = Frame.invoking theMethod args0 :: below0 := rfl
set_option maxRecDepth 65536 in
theorem w_args : argsFit about1.vm theMethod args0 = true := by decide +kernel
set_option maxRecDepth 65536 in
theorem w_heap : heapFits about1 = true := by decide +kernel
set_option maxRecDepth 65536 in
theorem w_runnable : about1.curStatus? = some .runnable := by decide +kernel
set_option maxRecDepth 65536 in
theorem w_alone : about1.alone = true := by decide +kernel
set_option maxRecDepth 65536 in
theorem w_named : about1.methodNamed? x = some theMethod := by decide +kernel
set_option maxRecDepth 65536 in
theorem w_hears : about1.hears theMethod below0 = true := by decide +kernel
set_option maxRecDepth 65536 in
theorem w_ripe : about1.ripe theMethod args0 below0 = true := by decide +kernel
theorem w_running : about1.status = .running := rfl
set_option maxRecDepth 65536 in
theorem w_room : about1.hasRoom e0.platform room_1 = true :=
  launch0.hasRoom_least _ room_1 (by decide +kernel) (by decide +kernel) (by decide +kernel) (by decide +kernel) (by decide +kernel) (by decide +kernel)
theorem allAtoms_all (ts : List Jvm.Cond) (a : Array Jvm.Value) (st : Jvm.State) : (allAtoms ts).before a st = ts.all (fun c => c.before a st) := by
  induction ts with
  | nil => rfl
  | cons c t ih =>
    show (Jvm.Cond.and c (allAtoms t)).before a st = _
    rw [Jvm.Cond.before_and, ih, List.all_cons]
def words1 : List Jvm.Cond := Jvm.Cond.code x code maxLocals ret :: tables_1
/-- a 'code' word, met by the world's own term for the bytes: nothing is compared byte by byte -/
theorem code_word {y : MethodName} {bytes : ByteArray} {mx : Nat} {rt : Option FieldType} {a : Array Value} {s : State} {m : MethodId} {meth : Method} {c : Code} (h1 : s.methodNamed? y = some m) (h2 : s.vm.method? m = some meth) (h3 : meth.code = some c) (h4 : c.code = bytes)
    (h5 : (c.maxLocals == mx && c.exceptionTable.isEmpty && decide (c.maxStack ≤ mostOperands) && decide (meth.sig.returnType = rt) && !meth.locks && decide (parseMethodDescriptor y.desc = some meth.sig)) = true) : (Jvm.Cond.code y bytes mx rt).before a s = true := by
  simp only [Bool.and_eq_true, beq_iff_eq, Bool.not_eq_true', decide_eq_true_eq] at h5
  obtain ⟨⟨⟨⟨⟨g1, g2⟩, g3⟩, g4⟩, g5⟩, g6⟩ := h5
  simp [Cond.before, Cond.holds, Cond.value, h1, h2, h3, h4, g1, g2, g3, g4, g5, g6]
def isCode : Jvm.Cond → Bool
  | .code _ _ _ _ => true
  | _ => false
theorem all_split {L : List Jvm.Cond} {P : Jvm.Cond → Bool} (h1 : L.all (fun c => isCode c || P c) = true) (h2 : ∀ c ∈ L.filter isCode, P c = true) : L.all P = true := by
  refine List.all_eq_true.mpr fun c hc => ?_
  have h := List.all_eq_true.mp h1 c hc
  rcases Bool.eq_false_or_eq_true (isCode c) with hi | hi
  · exact h2 c (List.mem_filter.mpr ⟨hc, hi⟩)
  · simpa [hi] using h
set_option maxRecDepth 65536 in
theorem w_c0 : (Jvm.Cond.code x code maxLocals ret).before args0 about1 = true := code_word (m := ⟨1, 2⟩) (meth := k1m2) (c := k1c2) (by decide +kernel) rfl rfl rfl (by decide +kernel)
set_option maxRecDepth 65536 in
theorem w_c1 : (Jvm.Cond.code ({ cls := "com/example/postledger/postledger/Sql", name := "placeholders", desc := "(I)Ljava/lang/String;" } : Jvm.MethodName) prog_16_method_2_code (1 : Nat) (Option.some (Jvm.ClassFile.FieldType.object "java/lang/String"))).before args0 about1 = true := code_word (m := ⟨2, 1⟩) (meth := k2m1) (c := k2c1) (by decide +kernel) rfl rfl rfl (by decide +kernel)
set_option maxRecDepth 65536 in
theorem w_c2 : (Jvm.Cond.code ({ cls := "java/lang/StringBuilder", name := "<init>", desc := "()V" } : Jvm.MethodName) jdk_67_method_1_code (1 : Nat) (Option.none : Option Jvm.ClassFile.FieldType)).before args0 about1 = true := code_word (m := ⟨8, 0⟩) (meth := k8m0) (c := k8c0) (by decide +kernel) rfl rfl rfl (by decide +kernel)
set_option maxRecDepth 65536 in
theorem w_c3 : (Jvm.Cond.code ({ cls := "java/lang/AbstractStringBuilder", name := "<init>", desc := "(I)V" } : Jvm.MethodName) jdk_68_method_2_code (2 : Nat) (Option.none : Option Jvm.ClassFile.FieldType)).before args0 about1 = true := code_word (m := ⟨5, 1⟩) (meth := k5m1) (c := k5c1) (by decide +kernel) rfl rfl rfl (by decide +kernel)
set_option maxRecDepth 65536 in
theorem w_c4 : (Jvm.Cond.code ({ cls := "java/lang/Object", name := "<init>", desc := "()V" } : Jvm.MethodName) object_method_1_code (1 : Nat) (Option.none : Option Jvm.ClassFile.FieldType)).before args0 about1 = true := code_word (m := ⟨0, 0⟩) (meth := k0m0) (c := k0c0) (by decide +kernel) rfl rfl rfl (by decide +kernel)
set_option maxRecDepth 65536 in
theorem w_c5 : (Jvm.Cond.code ({ cls := "java/lang/StringBuilder", name := "append", desc := "(Ljava/lang/String;)Ljava/lang/StringBuilder;" } : Jvm.MethodName) jdk_67_method_7_code (2 : Nat) (Option.some (Jvm.ClassFile.FieldType.object "java/lang/StringBuilder"))).before args0 about1 = true := code_word (m := ⟨8, 1⟩) (meth := k8m1) (c := k8c1) (by decide +kernel) rfl rfl rfl (by decide +kernel)
set_option maxRecDepth 65536 in
theorem w_c6 : (Jvm.Cond.code ({ cls := "java/lang/AbstractStringBuilder", name := "append", desc := "(Ljava/lang/String;)Ljava/lang/AbstractStringBuilder;" } : Jvm.MethodName) jdk_68_method_22_code (3 : Nat) (Option.some (Jvm.ClassFile.FieldType.object "java/lang/AbstractStringBuilder"))).before args0 about1 = true := code_word (m := ⟨5, 5⟩) (meth := k5m5) (c := k5c5) (by decide +kernel) rfl rfl rfl (by decide +kernel)
set_option maxRecDepth 65536 in
theorem w_c7 : (Jvm.Cond.code ({ cls := "java/lang/String", name := "length", desc := "()I" } : Jvm.MethodName) jdk_42_method_54_code (1 : Nat) (Option.some Jvm.ClassFile.FieldType.int)).before args0 about1 = true := code_word (m := ⟨11, 2⟩) (meth := k11m2) (c := k11c2) (by decide +kernel) rfl rfl rfl (by decide +kernel)
set_option maxRecDepth 65536 in
theorem w_c8 : (Jvm.Cond.code ({ cls := "java/lang/String", name := "coder", desc := "()B" } : Jvm.MethodName) jdk_42_method_152_code (1 : Nat) (Option.some Jvm.ClassFile.FieldType.byte)).before args0 about1 = true := code_word (m := ⟨11, 9⟩) (meth := k11m9) (c := k11c9) (by decide +kernel) rfl rfl rfl (by decide +kernel)
set_option maxRecDepth 65536 in
theorem w_c9 : (Jvm.Cond.code ({ cls := "java/lang/AbstractStringBuilder", name := "ensureCapacityInternal", desc := "(I)V" } : Jvm.MethodName) jdk_68_method_9_code (3 : Nat) (Option.none : Option Jvm.ClassFile.FieldType)).before args0 about1 = true := code_word (m := ⟨5, 3⟩) (meth := k5m3) (c := k5c3) (by decide +kernel) rfl rfl rfl (by decide +kernel)
set_option maxRecDepth 65536 in
theorem w_c10 : (Jvm.Cond.code ({ cls := "java/lang/AbstractStringBuilder", name := "putStringAt", desc := "(ILjava/lang/String;)V" } : Jvm.MethodName) jdk_68_method_73_code (3 : Nat) (Option.none : Option Jvm.ClassFile.FieldType)).before args0 about1 = true := code_word (m := ⟨5, 9⟩) (meth := k5m9) (c := k5c9) (by decide +kernel) rfl rfl rfl (by decide +kernel)
set_option maxRecDepth 65536 in
theorem w_c11 : (Jvm.Cond.code ({ cls := "java/lang/AbstractStringBuilder", name := "inflateIfNeededFor", desc := "(Ljava/lang/String;)V" } : Jvm.MethodName) jdk_68_method_71_code (2 : Nat) (Option.none : Option Jvm.ClassFile.FieldType)).before args0 about1 = true := code_word (m := ⟨5, 8⟩) (meth := k5m8) (c := k5c8) (by decide +kernel) rfl rfl rfl (by decide +kernel)
set_option maxRecDepth 65536 in
theorem w_c12 : (Jvm.Cond.code ({ cls := "java/lang/String", name := "getBytes", desc := "([BIB)V" } : Jvm.MethodName) jdk_42_method_147_code (4 : Nat) (Option.none : Option Jvm.ClassFile.FieldType)).before args0 about1 = true := code_word (m := ⟨11, 6⟩) (meth := k11m6) (c := k11c6) (by decide +kernel) rfl rfl rfl (by decide +kernel)
set_option maxRecDepth 65536 in
theorem w_c13 : (Jvm.Cond.code ({ cls := "java/lang/String", name := "repeat", desc := "(I)Ljava/lang/String;" } : Jvm.MethodName) jdk_42_method_145_code (5 : Nat) (Option.some (Jvm.ClassFile.FieldType.object "java/lang/String"))).before args0 about1 = true := code_word (m := ⟨11, 4⟩) (meth := k11m4) (c := k11c4) (by decide +kernel) rfl rfl rfl (by decide +kernel)
set_option maxRecDepth 65536 in
theorem w_c14 : (Jvm.Cond.code ({ cls := "java/lang/StringBuilder", name := "toString", desc := "()Ljava/lang/String;" } : Jvm.MethodName) jdk_67_method_42_code (1 : Nat) (Option.some (Jvm.ClassFile.FieldType.object "java/lang/String"))).before args0 about1 = true := code_word (m := ⟨8, 2⟩) (meth := k8m2) (c := k8c2) (by decide +kernel) rfl rfl rfl (by decide +kernel)
set_option maxRecDepth 65536 in
theorem w_c15 : (Jvm.Cond.code ({ cls := "java/lang/String", name := "<init>", desc := "(Ljava/lang/StringBuilder;)V" } : Jvm.MethodName) jdk_42_method_53_code (2 : Nat) (Option.none : Option Jvm.ClassFile.FieldType)).before args0 about1 = true := code_word (m := ⟨11, 1⟩) (meth := k11m1) (c := k11c1) (by decide +kernel) rfl rfl rfl (by decide +kernel)
set_option maxRecDepth 65536 in
theorem w_c16 : (Jvm.Cond.code ({ cls := "java/lang/String", name := "<init>", desc := "(Ljava/lang/AbstractStringBuilder;Ljava/lang/Void;)V" } : Jvm.MethodName) jdk_42_method_150_code (5 : Nat) (Option.none : Option Jvm.ClassFile.FieldType)).before args0 about1 = true := code_word (m := ⟨11, 7⟩) (meth := k11m7) (c := k11c7) (by decide +kernel) rfl rfl rfl (by decide +kernel)
set_option maxRecDepth 65536 in
theorem w_c17 : (Jvm.Cond.code ({ cls := "java/lang/AbstractStringBuilder", name := "getValue", desc := "()[B" } : Jvm.MethodName) jdk_68_method_64_code (1 : Nat) (Option.some (Jvm.ClassFile.FieldType.array Jvm.ClassFile.FieldType.byte))).before args0 about1 = true := code_word (m := ⟨5, 6⟩) (meth := k5m6) (c := k5c6) (by decide +kernel) rfl rfl rfl (by decide +kernel)
set_option maxRecDepth 65536 in
theorem w_c18 : (Jvm.Cond.code ({ cls := "java/lang/StringBuilder", name := "length", desc := "()I" } : Jvm.MethodName) jdk_67_method_93_code (1 : Nat) (Option.some Jvm.ClassFile.FieldType.int)).before args0 about1 = true := code_word (m := ⟨8, 3⟩) (meth := k8m3) (c := k8c3) (by decide +kernel) rfl rfl rfl (by decide +kernel)
set_option maxRecDepth 65536 in
theorem w_c19 : (Jvm.Cond.code ({ cls := "java/lang/AbstractStringBuilder", name := "length", desc := "()I" } : Jvm.MethodName) jdk_68_method_6_code (1 : Nat) (Option.some Jvm.ClassFile.FieldType.int)).before args0 about1 = true := code_word (m := ⟨5, 2⟩) (meth := k5m2) (c := k5c2) (by decide +kernel) rfl rfl rfl (by decide +kernel)
set_option maxRecDepth 65536 in
theorem w_c20 : (Jvm.Cond.code ({ cls := "java/lang/AbstractStringBuilder", name := "isLatin1", desc := "()Z" } : Jvm.MethodName) jdk_68_method_68_code (1 : Nat) (Option.some Jvm.ClassFile.FieldType.boolean)).before args0 about1 = true := code_word (m := ⟨5, 7⟩) (meth := k5m7) (c := k5c7) (by decide +kernel) rfl rfl rfl (by decide +kernel)
set_option maxRecDepth 65536 in
theorem w_c21 : (Jvm.Cond.code ({ cls := "java/util/Arrays", name := "copyOfRange", desc := "([BII)[B" } : Jvm.MethodName) jdk_65_method_132_code (3 : Nat) (Option.some (Jvm.ClassFile.FieldType.array Jvm.ClassFile.FieldType.byte))).before args0 about1 = true := code_word (m := ⟨13, 3⟩) (meth := k13m3) (c := k13c3) (by decide +kernel) rfl rfl rfl (by decide +kernel)
set_option maxRecDepth 65536 in
theorem w_c22 : (Jvm.Cond.code ({ cls := "java/util/Arrays", name := "copyOfRangeByte", desc := "([BII)[B" } : Jvm.MethodName) jdk_65_method_133_code (5 : Nat) (Option.some (Jvm.ClassFile.FieldType.array Jvm.ClassFile.FieldType.byte))).before args0 about1 = true := code_word (m := ⟨13, 4⟩) (meth := k13m4) (c := k13c4) (by decide +kernel) rfl rfl rfl (by decide +kernel)
set_option maxRecDepth 65536 in
theorem w_c23 : (Jvm.Cond.code ({ cls := "java/util/Arrays", name := "checkLength", desc := "(II)V" } : Jvm.MethodName) jdk_65_method_131_code (2 : Nat) (Option.none : Option Jvm.ClassFile.FieldType)).before args0 about1 = true := code_word (m := ⟨13, 2⟩) (meth := k13m2) (c := k13c2) (by decide +kernel) rfl rfl rfl (by decide +kernel)
set_option maxRecDepth 65536 in
theorem w_c24 : (Jvm.Cond.code ({ cls := "java/lang/Math", name := "min", desc := "(II)I" } : Jvm.MethodName) jdk_29_method_69_code (2 : Nat) (Option.some Jvm.ClassFile.FieldType.int)).before args0 about1 = true := code_word (m := ⟨14, 2⟩) (meth := k14m2) (c := k14c2) (by decide +kernel) rfl rfl rfl (by decide +kernel)
set_option maxRecDepth 65536 in
theorem w_c25 : (Jvm.Cond.code ({ cls := "java/lang/String", name := "charAt", desc := "(I)C" } : Jvm.MethodName) jdk_42_method_56_code (2 : Nat) (Option.some Jvm.ClassFile.FieldType.char)).before args0 about1 = true := code_word (m := ⟨11, 3⟩) (meth := k11m3) (c := k11c3) (by decide +kernel) rfl rfl rfl (by decide +kernel)
set_option maxRecDepth 65536 in
theorem w_c26 : (Jvm.Cond.code ({ cls := "java/lang/String", name := "isLatin1", desc := "()Z" } : Jvm.MethodName) jdk_42_method_154_code (1 : Nat) (Option.some Jvm.ClassFile.FieldType.boolean)).before args0 about1 = true := code_word (m := ⟨11, 10⟩) (meth := k11m10) (c := k11c10) (by decide +kernel) rfl rfl rfl (by decide +kernel)
set_option maxRecDepth 65536 in
theorem w_c27 : (Jvm.Cond.code ({ cls := "java/lang/StringLatin1", name := "charAt", desc := "([BI)C" } : Jvm.MethodName) jdk_43_method_2_code (2 : Nat) (Option.some Jvm.ClassFile.FieldType.char)).before args0 about1 = true := code_word (m := ⟨15, 1⟩) (meth := k15m1) (c := k15c1) (by decide +kernel) rfl rfl rfl (by decide +kernel)
set_option maxRecDepth 65536 in
theorem w_c28 : (Jvm.Cond.code ({ cls := "java/lang/String", name := "checkIndex", desc := "(II)V" } : Jvm.MethodName) jdk_42_method_155_code (2 : Nat) (Option.none : Option Jvm.ClassFile.FieldType)).before args0 about1 = true := code_word (m := ⟨11, 11⟩) (meth := k11m11) (c := k11c11) (by decide +kernel) rfl rfl rfl (by decide +kernel)
set_option maxRecDepth 65536 in
theorem w_c29 : (Jvm.Cond.code ({ cls := "jdk/internal/util/Preconditions", name := "checkIndex", desc := "(IILjava/util/function/BiFunction;)I" } : Jvm.MethodName) jdk_41_method_11_code (3 : Nat) (Option.some Jvm.ClassFile.FieldType.int)).before args0 about1 = true := code_word (m := ⟨16, 1⟩) (meth := k16m1) (c := k16c1) (by decide +kernel) rfl rfl rfl (by decide +kernel)
set_option maxRecDepth 65536 in
theorem w_c30 : (Jvm.Cond.code ({ cls := "com/example/postledger/postledger/SqlPlaceholdersPinLaw", name := "expectedAt", desc := "(I)C" } : Jvm.MethodName) method_2_code (2 : Nat) (Option.some Jvm.ClassFile.FieldType.char)).before args0 about1 = true := code_word (m := ⟨1, 1⟩) (meth := k1m1) (c := k1c1) (by decide +kernel) rfl rfl rfl (by decide +kernel)
set_option maxRecDepth 65536 in
theorem w_c31 : (Jvm.Cond.code ({ cls := "java/lang/String", name := "repeatCopyRest", desc := "([BIII)V" } : Jvm.MethodName) jdk_42_method_146_code (4 : Nat) (Option.none : Option Jvm.ClassFile.FieldType)).before args0 about1 = true := code_word (m := ⟨11, 5⟩) (meth := k11m5) (c := k11c5) (by decide +kernel) rfl rfl rfl (by decide +kernel)
set_option maxRecDepth 65536 in
theorem w_c32 : (Jvm.Cond.code ({ cls := "java/lang/String", name := "<init>", desc := "([BB)V" } : Jvm.MethodName) jdk_42_method_151_code (3 : Nat) (Option.none : Option Jvm.ClassFile.FieldType)).before args0 about1 = true := code_word (m := ⟨11, 8⟩) (meth := k11m8) (c := k11c8) (by decide +kernel) rfl rfl rfl (by decide +kernel)
set_option maxRecDepth 65536 in
theorem w_c33 : (Jvm.Cond.code ({ cls := "java/lang/AbstractStringBuilder", name := "newCapacity", desc := "(I)I" } : Jvm.MethodName) jdk_68_method_10_code (6 : Nat) (Option.some Jvm.ClassFile.FieldType.int)).before args0 about1 = true := code_word (m := ⟨5, 4⟩) (meth := k5m4) (c := k5c4) (by decide +kernel) rfl rfl rfl (by decide +kernel)
set_option maxRecDepth 65536 in
theorem w_c34 : (Jvm.Cond.code ({ cls := "jdk/internal/util/ArraysSupport", name := "newLength", desc := "(III)I" } : Jvm.MethodName) jdk_48_method_27_code (4 : Nat) (Option.some Jvm.ClassFile.FieldType.int)).before args0 about1 = true := code_word (m := ⟨17, 1⟩) (meth := k17m1) (c := k17c1) (by decide +kernel) rfl rfl rfl (by decide +kernel)
set_option maxRecDepth 65536 in
theorem w_c35 : (Jvm.Cond.code ({ cls := "java/lang/Math", name := "max", desc := "(II)I" } : Jvm.MethodName) jdk_29_method_65_code (2 : Nat) (Option.some Jvm.ClassFile.FieldType.int)).before args0 about1 = true := code_word (m := ⟨14, 1⟩) (meth := k14m1) (c := k14c1) (by decide +kernel) rfl rfl rfl (by decide +kernel)
set_option maxRecDepth 65536 in
theorem w_c36 : (Jvm.Cond.code ({ cls := "java/util/Arrays", name := "copyOf", desc := "([BI)[B" } : Jvm.MethodName) jdk_65_method_121_code (3 : Nat) (Option.some (Jvm.ClassFile.FieldType.array Jvm.ClassFile.FieldType.byte))).before args0 about1 = true := code_word (m := ⟨13, 1⟩) (meth := k13m1) (c := k13c1) (by decide +kernel) rfl rfl rfl (by decide +kernel)
def codes1 : List Jvm.Cond := [Jvm.Cond.code x code maxLocals ret, Jvm.Cond.code ({ cls := "com/example/postledger/postledger/Sql", name := "placeholders", desc := "(I)Ljava/lang/String;" } : Jvm.MethodName) prog_16_method_2_code (1 : Nat) (Option.some (Jvm.ClassFile.FieldType.object "java/lang/String")), Jvm.Cond.code ({ cls := "java/lang/StringBuilder", name := "<init>", desc := "()V" } : Jvm.MethodName) jdk_67_method_1_code (1 : Nat) (Option.none : Option Jvm.ClassFile.FieldType), Jvm.Cond.code ({ cls := "java/lang/AbstractStringBuilder", name := "<init>", desc := "(I)V" } : Jvm.MethodName) jdk_68_method_2_code (2 : Nat) (Option.none : Option Jvm.ClassFile.FieldType), Jvm.Cond.code ({ cls := "java/lang/Object", name := "<init>", desc := "()V" } : Jvm.MethodName) object_method_1_code (1 : Nat) (Option.none : Option Jvm.ClassFile.FieldType), Jvm.Cond.code ({ cls := "java/lang/StringBuilder", name := "append", desc := "(Ljava/lang/String;)Ljava/lang/StringBuilder;" } : Jvm.MethodName) jdk_67_method_7_code (2 : Nat) (Option.some (Jvm.ClassFile.FieldType.object "java/lang/StringBuilder")), Jvm.Cond.code ({ cls := "java/lang/AbstractStringBuilder", name := "append", desc := "(Ljava/lang/String;)Ljava/lang/AbstractStringBuilder;" } : Jvm.MethodName) jdk_68_method_22_code (3 : Nat) (Option.some (Jvm.ClassFile.FieldType.object "java/lang/AbstractStringBuilder")), Jvm.Cond.code ({ cls := "java/lang/String", name := "length", desc := "()I" } : Jvm.MethodName) jdk_42_method_54_code (1 : Nat) (Option.some Jvm.ClassFile.FieldType.int), Jvm.Cond.code ({ cls := "java/lang/String", name := "coder", desc := "()B" } : Jvm.MethodName) jdk_42_method_152_code (1 : Nat) (Option.some Jvm.ClassFile.FieldType.byte), Jvm.Cond.code ({ cls := "java/lang/AbstractStringBuilder", name := "ensureCapacityInternal", desc := "(I)V" } : Jvm.MethodName) jdk_68_method_9_code (3 : Nat) (Option.none : Option Jvm.ClassFile.FieldType), Jvm.Cond.code ({ cls := "java/lang/AbstractStringBuilder", name := "putStringAt", desc := "(ILjava/lang/String;)V" } : Jvm.MethodName) jdk_68_method_73_code (3 : Nat) (Option.none : Option Jvm.ClassFile.FieldType), Jvm.Cond.code ({ cls := "java/lang/AbstractStringBuilder", name := "inflateIfNeededFor", desc := "(Ljava/lang/String;)V" } : Jvm.MethodName) jdk_68_method_71_code (2 : Nat) (Option.none : Option Jvm.ClassFile.FieldType), Jvm.Cond.code ({ cls := "java/lang/String", name := "getBytes", desc := "([BIB)V" } : Jvm.MethodName) jdk_42_method_147_code (4 : Nat) (Option.none : Option Jvm.ClassFile.FieldType), Jvm.Cond.code ({ cls := "java/lang/String", name := "repeat", desc := "(I)Ljava/lang/String;" } : Jvm.MethodName) jdk_42_method_145_code (5 : Nat) (Option.some (Jvm.ClassFile.FieldType.object "java/lang/String")), Jvm.Cond.code ({ cls := "java/lang/StringBuilder", name := "toString", desc := "()Ljava/lang/String;" } : Jvm.MethodName) jdk_67_method_42_code (1 : Nat) (Option.some (Jvm.ClassFile.FieldType.object "java/lang/String")), Jvm.Cond.code ({ cls := "java/lang/String", name := "<init>", desc := "(Ljava/lang/StringBuilder;)V" } : Jvm.MethodName) jdk_42_method_53_code (2 : Nat) (Option.none : Option Jvm.ClassFile.FieldType), Jvm.Cond.code ({ cls := "java/lang/String", name := "<init>", desc := "(Ljava/lang/AbstractStringBuilder;Ljava/lang/Void;)V" } : Jvm.MethodName) jdk_42_method_150_code (5 : Nat) (Option.none : Option Jvm.ClassFile.FieldType), Jvm.Cond.code ({ cls := "java/lang/AbstractStringBuilder", name := "getValue", desc := "()[B" } : Jvm.MethodName) jdk_68_method_64_code (1 : Nat) (Option.some (Jvm.ClassFile.FieldType.array Jvm.ClassFile.FieldType.byte)), Jvm.Cond.code ({ cls := "java/lang/StringBuilder", name := "length", desc := "()I" } : Jvm.MethodName) jdk_67_method_93_code (1 : Nat) (Option.some Jvm.ClassFile.FieldType.int), Jvm.Cond.code ({ cls := "java/lang/AbstractStringBuilder", name := "length", desc := "()I" } : Jvm.MethodName) jdk_68_method_6_code (1 : Nat) (Option.some Jvm.ClassFile.FieldType.int), Jvm.Cond.code ({ cls := "java/lang/AbstractStringBuilder", name := "isLatin1", desc := "()Z" } : Jvm.MethodName) jdk_68_method_68_code (1 : Nat) (Option.some Jvm.ClassFile.FieldType.boolean), Jvm.Cond.code ({ cls := "java/util/Arrays", name := "copyOfRange", desc := "([BII)[B" } : Jvm.MethodName) jdk_65_method_132_code (3 : Nat) (Option.some (Jvm.ClassFile.FieldType.array Jvm.ClassFile.FieldType.byte)), Jvm.Cond.code ({ cls := "java/util/Arrays", name := "copyOfRangeByte", desc := "([BII)[B" } : Jvm.MethodName) jdk_65_method_133_code (5 : Nat) (Option.some (Jvm.ClassFile.FieldType.array Jvm.ClassFile.FieldType.byte)), Jvm.Cond.code ({ cls := "java/util/Arrays", name := "checkLength", desc := "(II)V" } : Jvm.MethodName) jdk_65_method_131_code (2 : Nat) (Option.none : Option Jvm.ClassFile.FieldType), Jvm.Cond.code ({ cls := "java/lang/Math", name := "min", desc := "(II)I" } : Jvm.MethodName) jdk_29_method_69_code (2 : Nat) (Option.some Jvm.ClassFile.FieldType.int), Jvm.Cond.code ({ cls := "java/lang/String", name := "charAt", desc := "(I)C" } : Jvm.MethodName) jdk_42_method_56_code (2 : Nat) (Option.some Jvm.ClassFile.FieldType.char), Jvm.Cond.code ({ cls := "java/lang/String", name := "isLatin1", desc := "()Z" } : Jvm.MethodName) jdk_42_method_154_code (1 : Nat) (Option.some Jvm.ClassFile.FieldType.boolean), Jvm.Cond.code ({ cls := "java/lang/StringLatin1", name := "charAt", desc := "([BI)C" } : Jvm.MethodName) jdk_43_method_2_code (2 : Nat) (Option.some Jvm.ClassFile.FieldType.char), Jvm.Cond.code ({ cls := "java/lang/String", name := "checkIndex", desc := "(II)V" } : Jvm.MethodName) jdk_42_method_155_code (2 : Nat) (Option.none : Option Jvm.ClassFile.FieldType), Jvm.Cond.code ({ cls := "jdk/internal/util/Preconditions", name := "checkIndex", desc := "(IILjava/util/function/BiFunction;)I" } : Jvm.MethodName) jdk_41_method_11_code (3 : Nat) (Option.some Jvm.ClassFile.FieldType.int), Jvm.Cond.code ({ cls := "com/example/postledger/postledger/SqlPlaceholdersPinLaw", name := "expectedAt", desc := "(I)C" } : Jvm.MethodName) method_2_code (2 : Nat) (Option.some Jvm.ClassFile.FieldType.char), Jvm.Cond.code ({ cls := "java/lang/String", name := "repeatCopyRest", desc := "([BIII)V" } : Jvm.MethodName) jdk_42_method_146_code (4 : Nat) (Option.none : Option Jvm.ClassFile.FieldType), Jvm.Cond.code ({ cls := "java/lang/String", name := "<init>", desc := "([BB)V" } : Jvm.MethodName) jdk_42_method_151_code (3 : Nat) (Option.none : Option Jvm.ClassFile.FieldType), Jvm.Cond.code ({ cls := "java/lang/AbstractStringBuilder", name := "newCapacity", desc := "(I)I" } : Jvm.MethodName) jdk_68_method_10_code (6 : Nat) (Option.some Jvm.ClassFile.FieldType.int), Jvm.Cond.code ({ cls := "jdk/internal/util/ArraysSupport", name := "newLength", desc := "(III)I" } : Jvm.MethodName) jdk_48_method_27_code (4 : Nat) (Option.some Jvm.ClassFile.FieldType.int), Jvm.Cond.code ({ cls := "java/lang/Math", name := "max", desc := "(II)I" } : Jvm.MethodName) jdk_29_method_65_code (2 : Nat) (Option.some Jvm.ClassFile.FieldType.int), Jvm.Cond.code ({ cls := "java/util/Arrays", name := "copyOf", desc := "([BI)[B" } : Jvm.MethodName) jdk_65_method_121_code (3 : Nat) (Option.some (Jvm.ClassFile.FieldType.array Jvm.ClassFile.FieldType.byte))]
set_option maxRecDepth 65536 in
theorem codes_eq : words1.filter isCode = codes1 := rfl
theorem w_codes : ∀ c ∈ words1.filter isCode, c.before args0 about1 = true := by
  rw [codes_eq]
  intro c hc
  simp only [codes1, List.mem_cons, List.not_mem_nil, or_false] at hc
  rcases hc with rfl | rfl | rfl | rfl | rfl | rfl | rfl | rfl | rfl | rfl | rfl | rfl | rfl | rfl | rfl | rfl | rfl | rfl | rfl | rfl | rfl | rfl | rfl | rfl | rfl | rfl | rfl | rfl | rfl | rfl | rfl | rfl | rfl | rfl | rfl | rfl | rfl
  · exact w_c0
  · exact w_c1
  · exact w_c2
  · exact w_c3
  · exact w_c4
  · exact w_c5
  · exact w_c6
  · exact w_c7
  · exact w_c8
  · exact w_c9
  · exact w_c10
  · exact w_c11
  · exact w_c12
  · exact w_c13
  · exact w_c14
  · exact w_c15
  · exact w_c16
  · exact w_c17
  · exact w_c18
  · exact w_c19
  · exact w_c20
  · exact w_c21
  · exact w_c22
  · exact w_c23
  · exact w_c24
  · exact w_c25
  · exact w_c26
  · exact w_c27
  · exact w_c28
  · exact w_c29
  · exact w_c30
  · exact w_c31
  · exact w_c32
  · exact w_c33
  · exact w_c34
  · exact w_c35
  · exact w_c36
set_option maxRecDepth 65536 in
theorem w_t1 : (words1.take 24).all (fun c => isCode c || c.before args0 about1) = true := by decide +kernel
set_option maxRecDepth 65536 in
theorem w_t2 : ((words1.drop 24).take 24).all (fun c => isCode c || c.before args0 about1) = true := by decide +kernel
set_option maxRecDepth 65536 in
theorem w_t3 : (((words1.drop 24).drop 24).take 24).all (fun c => isCode c || c.before args0 about1) = true := by decide +kernel
set_option maxRecDepth 65536 in
theorem w_t4 : ((((words1.drop 24).drop 24).drop 24).take 24).all (fun c => isCode c || c.before args0 about1) = true := by decide +kernel
set_option maxRecDepth 65536 in
theorem w_t5 : (((((words1.drop 24).drop 24).drop 24).drop 24).take 24).all (fun c => isCode c || c.before args0 about1) = true := by decide +kernel
set_option maxRecDepth 65536 in
theorem w_t6 : ((((((words1.drop 24).drop 24).drop 24).drop 24).drop 24).take 24).all (fun c => isCode c || c.before args0 about1) = true := by decide +kernel
set_option maxRecDepth 65536 in
theorem w_t7 : (((((((words1.drop 24).drop 24).drop 24).drop 24).drop 24).drop 24).take 24).all (fun c => isCode c || c.before args0 about1) = true := by decide +kernel
set_option maxRecDepth 65536 in
theorem w_t8 : ((((((((words1.drop 24).drop 24).drop 24).drop 24).drop 24).drop 24).drop 24).take 24).all (fun c => isCode c || c.before args0 about1) = true := by decide +kernel
set_option maxRecDepth 65536 in
theorem w_t9 : ((((((((words1.drop 24).drop 24).drop 24).drop 24).drop 24).drop 24).drop 24).drop 24).all (fun c => isCode c || c.before args0 about1) = true := by decide +kernel
theorem w_tables : (allAtoms (Jvm.Cond.code x code maxLocals ret :: tables_1)).before args0 about1 = true := by
  rw [allAtoms_all]
  show words1.all (fun c => c.before args0 about1) = true
  refine all_split ?_ w_codes
  rw [← List.take_append_drop 24 words1, List.all_append, w_t1, ← List.take_append_drop 24 (words1.drop 24), List.all_append, w_t2, ← List.take_append_drop 24 ((words1.drop 24).drop 24), List.all_append, w_t3, ← List.take_append_drop 24 (((words1.drop 24).drop 24).drop 24), List.all_append, w_t4, ← List.take_append_drop 24 ((((words1.drop 24).drop 24).drop 24).drop 24), List.all_append, w_t5, ← List.take_append_drop 24 (((((words1.drop 24).drop 24).drop 24).drop 24).drop 24), List.all_append, w_t6, ← List.take_append_drop 24 ((((((words1.drop 24).drop 24).drop 24).drop 24).drop 24).drop 24), List.all_append, w_t7, ← List.take_append_drop 24 (((((((words1.drop 24).drop 24).drop 24).drop 24).drop 24).drop 24).drop 24), List.all_append, w_t8, w_t9]
  rfl
set_option maxRecDepth 65536 in
theorem w_rest : rest_1_c.before args0 about1 = true := by decide +kernel
set_option maxRecDepth 65536 in
theorem w_case : (Jvm.Cond.and given_1 narrow_1).before args0 about1 = true := by decide +kernel
set_option maxRecDepth 65536 in
theorem w_consts : constsHeld consts_1 about1 := Jvm.Lit.constsHeldB_iff.mp (by decide +kernel)
theorem w_applies : (headSpec (Jvm.Cond.code x code maxLocals ret :: tables_1) room_1).applies x e0.platform about1 = true :=
  (Spec.applies_iff w_frames).mpr ⟨w_running, w_runnable, w_alone, w_named, w_hears, w_ripe, w_room, w_tables⟩
theorem atStart : AtStart classFile x code maxLocals ret World_1 tables_1 room_1 Calls_1 rest_1 Pre_1 launch0 p0 e0 about1 theMethod args0 below0 :=
  ⟨lists_1, trivial, launch0.admits_env _ _ _, launch0.least_env, fairChoices_fair.cas, fairChoices_fair.clock, w_frames, w_args, w_heap, w_applies, ⟨w_consts, trivial⟩, w_rest, w_case⟩
end start1
theorem witness_1 : WitnessClaimed_1 := ⟨start1.p0, start1.e0, start1.about1, start1.theMethod, start1.args0, start1.below0, start1.atStart⟩
end Jvm.Pilot.@@N@@
