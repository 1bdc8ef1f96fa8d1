import JvmDerived
import JvmDerived.Pilot.@@N@@Statement
import JvmDerived.Pilot.@@N@@Code
set_option linter.unusedVariables false
set_option linter.unusedSimpArgs false
namespace Jvm.OwnKit
open Sem ClassFile Op Lib Jvm.Stand Jvm.Free Jvm.LawKit Jvm.RoadKit
/-! a run that goes on to its end -/
def Run (tb : Tables) (e : Env) (below : List Frame) (F : Outcome → State → Prop) (st : State) : Prop :=
  ∃ u o, Steps tb e below st u ∧ u.status = .running ∧ Ended u below o ∧ F o u
theorem Run.st {tb : Tables} {e : Env} {below : List Frame} {F : Outcome → State → Prop} {st : State} (st' : State) (k : ∀ t, Steps tb e below st' t → Steps tb e below st t) (h : Run tb e below F st') : Run tb e below F st := by
  obtain ⟨u, o, a, b⟩ := h
  exact ⟨u, o, k _ a, b⟩
/-! small facts -/
theorem extR (h : Heap) : Ext h h := ⟨Nat.le_refl _, fun _ _ q => q⟩
theorem extT {h h1 h2 : Heap} (E : Ext h h1) (F : Ext h1 h2) : Ext h h2 := ⟨Nat.le_trans E.1 F.1, fun a c q => F.2 a c (E.2 a c q)⟩
theorem extK {h h1 h2 : Heap} {ws : List Addr} (E : Ext h h1) (K : Keep h1 h2 ws) (q : ∀ x ∈ ws, h.size ≤ x) : Ext h h2 := ⟨Nat.le_trans E.1 K.1, fun a c ha => K.2.1 a c (E.2 a c ha) fun hm => Nat.lt_irrefl _ (Nat.lt_of_lt_of_le (Array.getElem?_eq_some_iff.mp ha).1 (q a hm))⟩
theorem keepE {h h1 : Heap} (K : Keep h h1 []) : Ext h h1 := extK (extR h) K all0
theorem cat_r (a : Addr) : (Value.ref a).category = 1 := rfl
theorem cat_i (z : Int32) : (Value.int z).category = 1 := rfl
theorem cat_l (z : Int64) : (Value.long z).category = 2 := rfl
theorem cat_n : Value.null.category = 1 := rfl
theorem catR {v : Value} (h : v.isRef = true) : v.category = 1 := by cases v <;> simp [Value.isRef] at h <;> rfl
theorem narR {v : Value} {t : FieldType} (h : v.isRef = true) (ht : t.isReference = true) : narrow t v = v := by cases v <;> simp [Value.isRef] at h <;> cases t <;> first | rfl | cases ht
theorem fitR {v : Value} {t : FieldType} (h : v.isRef = true) (ht : t.isReference = true) : fits t v = true := by cases v <;> simp [Value.isRef] at h <;> cases t <;> first | rfl | cases ht
theorem narZ {z : Int32} (h : z = 0 ∨ z = 1) : narrow .boolean (.int z) = .int z := by rcases h with rfl | rfl <;> rfl
theorem fitZ {z : Int32} (h : z = 0 ∨ z = 1) : fits .boolean (.int z) = true := by rcases h with rfl | rfl <;> rfl
theorem b01k {P : Prop} {z : Int32} (h : P ∧ z = 1 ∨ ¬ P ∧ z = 0) : z = 0 ∨ z = 1 := h.elim (fun q => Or.inr q.2) (fun q => Or.inl q.2)
def bI (P : Prop) [Decidable P] : Int32 := if P then 1 else 0
theorem bIt {P : Prop} [Decidable P] (h : P) : bI P = 1 := if_pos h
theorem bI0 {P : Prop} [Decidable P] (h : ¬ P) : bI P = 0 := if_neg h
theorem bI1 {P : Prop} [Decidable P] (h : P) : ¬ bI P = 0 := by rw [bIt h]; decide
theorem bIc {P Q : Prop} [Decidable P] [Decidable Q] (h : P ↔ Q) : bI P = bI Q := by
  by_cases p : P
  · rw [bIt p, bIt (h.mp p)]
  · rw [bI0 p, bI0 fun q => p (h.mpr q)]
theorem b01b {P : Prop} [Decidable P] : bI P = 0 ∨ bI P = 1 := by
  by_cases p : P
  · exact Or.inr (bIt p)
  · exact Or.inl (bI0 p)
theorem cmpL_self (x : Int64) : XT.cmpL x x = 0 := by simp [XT.cmpL]
theorem i32e {a b : Int32} (h : a.toInt = b.toInt) : a = b := Int32.toInt_inj.mp h
theorem fitsNB (x : Int32) : fits .byte (.int (nar .byte x)) = true := by
  have h := c_i2b x; have e1 : (-128 : Int32).toInt = -128 := rfl; have e2 : (127 : Int32).toInt = 127 := rfl
  simp only [fits, nar, Bool.and_eq_true, decide_eq_true_eq, Int32.le_iff_toInt_le, e1, e2]; omega
theorem c8i (x : Int32) : (x &&& (255 : Int32)).toUInt32.toUInt16.toUInt32.toInt32 = x &&& (255 : Int32) := by
  have q := c_and x 255 (by decide); have r := c_i2c (x &&& 255); have e : (255 : Int32).toInt = 255 := rfl
  exact i32e (by omega)
theorem narC {x : Int32} (h : ¬ x < 0 ∧ ¬ (255 : Int32) < x) : nar .char x = x := by
  have r := c_i2c x; have e : (255 : Int32).toInt = 255 := rfl; have e0 : (0 : Int32).toInt = 0 := rfl
  obtain ⟨h1, h2⟩ := h; rw [Int32.lt_iff_toInt_lt] at h1 h2
  exact i32e (by show x.toUInt32.toUInt16.toUInt32.toInt32.toInt = x.toInt; omega)
theorem c8r (x : Int32) : ¬ (x &&& (255 : Int32)) < 0 ∧ ¬ (255 : Int32) < (x &&& (255 : Int32)) := by
  have q := c_and x 255 (by decide); have e : (255 : Int32).toInt = 255 := rfl; have e0 : (0 : Int32).toInt = 0 := rfl
  rw [Int32.lt_iff_toInt_lt, Int32.lt_iff_toInt_lt]; omega
theorem c8n (x : Int32) : nar .char ((x &&& (255 : Int32)).toUInt32.toUInt16.toUInt32.toInt32) = x &&& (255 : Int32) := by rw [c8i]; exact narC (c8r x)
theorem c8lr (x : Int64) : ¬ (x &&& (255 : Int64)).toInt32 < 0 ∧ ¬ (255 : Int32) < (x &&& (255 : Int64)).toInt32 := by
  have q := c_maskL x 255 8 (by decide) (by decide); have r := c_l2i (x &&& 255); have b := rng32 (x &&& 255).toInt32; have e : (255 : Int32).toInt = 255 := rfl; have e0 : (0 : Int32).toInt = 0 := rfl
  rw [Int32.lt_iff_toInt_lt, Int32.lt_iff_toInt_lt]; omega
theorem c8ln (x : Int64) : nar .char ((x &&& (255 : Int64)).toInt32.toUInt32.toUInt16.toUInt32.toInt32) = (x &&& (255 : Int64)).toInt32 := by
  have h := narC (c8lr x)
  have e : (x &&& (255 : Int64)).toInt32.toUInt32.toUInt16.toUInt32.toInt32 = (x &&& (255 : Int64)).toInt32 := h
  rw [e]; exact h
theorem chs0 {P : Int32 → Prop} : ∀ c ∈ ([] : List Int32), P c := fun _ h => nomatch h
theorem chsS {P : Int32 → Prop} {y : Int32} {L : List Int32} (q : P y) (r : ∀ x ∈ L, P x) : ∀ x ∈ y :: L, P x := fun x hx => (List.mem_cons.mp hx).elim (fun e => e ▸ q) (r x)
theorem chUp {cs : List Int32} (h : ∀ c ∈ cs, ¬ c < 0 ∧ ¬ (255 : Int32) < c) : ∀ c ∈ cs, ¬ c < 0 ∧ ¬ (65535 : Int32) < c := fun c hc => ⟨(h c hc).1, fun q => (h c hc).2 (by rw [Int32.lt_iff_toInt_lt] at q ⊢; have e1 : (65535 : Int32).toInt = 65535 := rfl; have e2 : (255 : Int32).toInt = 255 := rfl; omega)⟩
theorem stoR {l : Array Slot} {i : Nat} {v : Value} {l' : Array Slot} {o : Slot} (hold : l[i]? = some o) (ho : o = .unset ∨ ∃ w, o = .val w ∧ w.category = 1) (hv : v.isRef = true) (e : l.setIfInBounds i (.val v) = l') : storeLocals l i v = some l' := by rw [XS.store1 hold ho (catR hv), e]
theorem shr0 (x : Int32) : x >>> ((0 : Int32) &&& 31) = x := i32e (by rw [c_ishr x 0 0 rfl]; simp)
theorem shl0 (x : Int32) : x <<< ((0 : Int32) &&& 31) = x := by
  have h := c_ishl x 0 0 rfl; have a := rng32 x; have b := rng32 (x <<< ((0 : Int32) &&& 31))
  rw [show (((2 ^ 0 : Nat) : Int)) = 1 from rfl, Int.mul_one] at h
  exact i32e (by omega)
theorem n_int {a : Nat} (h : a < 2147483648) : (Int32.ofNat a).toInt = a := len_toInt (n := a) (by omega)
theorem n_add (a b : Nat) : Int32.ofNat a + Int32.ofNat b = Int32.ofNat (a + b) := (Int32.ofNat_add a b).symm
theorem n_sub {a b : Nat} (h : b ≤ a) : Int32.ofNat a - Int32.ofNat b = Int32.ofNat (a - b) := by
  have e := n_add (a - b) b
  rw [Nat.sub_add_cancel h] at e
  rw [← e, Int32.add_sub_cancel]
theorem n_lt {a b : Nat} (ha : a < 2147483648) (hb : b < 2147483648) : Int32.ofNat a < Int32.ofNat b ↔ a < b := by rw [Int32.lt_iff_toInt_lt, n_int ha, n_int hb]; omega
theorem n_pos {a : Nat} (ha : a < 2147483648) : ¬ Int32.ofNat a < 0 := by rw [Int32.lt_iff_toInt_lt, n_int ha]; have e0 : (0 : Int32).toInt = 0 := rfl; omega
theorem n_clamp {a : Nat} (ha : a < 2147483648) : (Int32.ofNat a).toNatClampNeg = a := by simp only [Int32.toNatClampNeg, n_int ha]; rfl
theorem n_eq {a b : Nat} (ha : a < 2147483648) (hb : b < 2147483648) (h : Int32.ofNat a = Int32.ofNat b) : a = b := by have := congrArg Int32.toInt h; rw [n_int ha, n_int hb] at this; omega
theorem n_suble {a b : Nat} (h : a ≤ b) (hb : b < 2147483648) : ¬ (0 : Int32) < Int32.ofNat a - Int32.ofNat b := by
  have q := c_isub (Int32.ofNat a) (Int32.ofNat b); have r := rng32 (Int32.ofNat a - Int32.ofNat b)
  rw [n_int (by omega), n_int hb] at q
  rw [Int32.lt_iff_toInt_lt]; have e0 : (0 : Int32).toInt = 0 := rfl; omega
theorem n_subgt {a b : Nat} (h : b < a) (ha : a < 2147483648) : (0 : Int32) < Int32.ofNat a - Int32.ofNat b := by
  have q := c_isub (Int32.ofNat a) (Int32.ofNat b); have r := rng32 (Int32.ofNat a - Int32.ofNat b)
  rw [n_int ha, n_int (by omega)] at q
  rw [Int32.lt_iff_toInt_lt]; have e0 : (0 : Int32).toInt = 0 := rfl; omega
theorem nsI {Z : State} {a0 : Array Value} {C S K : String} {q : Nat} (w : (Cond.superclass C S).before a0 Z = true) (wo : (Cond.noSuperclass S).before a0 Z = true) (wk : (Cond.instantiable K q).before a0 Z = true) (h1 : C ≠ K) (h2 : S ≠ K) : ∃ c t, Z.vm.findClass C = some c ∧ Z.vm.findClass K = some t ∧ Z.vm.assignable c t = false := by
  obtain ⟨o, ko, o1, o2, o3, -, -⟩ := Cond.noSuperclass_spec wo
  obtain ⟨t, kt, t1, t2, t3, t4, -⟩ := Cond.instantiable_spec wk
  obtain ⟨c, c0⟩ := found_sup w
  obtain ⟨p, k, kp, p1, p2, p3, p4, p5, -, p7⟩ := Cond.superclass_spec c0 w
  cases o1.symm.trans p1
  have ne := ids_ne c0 t1 h1
  have ne2 := ids_ne o1 t1 h2
  have sub0 : ∀ fuel, Z.vm.isSubclassAux fuel o t = false := fun fuel => by
    cases fuel with
    | zero => rfl
    | succ f => simp [Vm.isSubclassAux, ne2, o2, o3]
  have sub : ∀ fuel, Z.vm.isSubclassAux fuel c t = false := fun fuel => by
    cases fuel with
    | zero => rfl
    | succ f => simp [Vm.isSubclassAux, ne, p2, p4, sub0]
  simp only [Bool.or_eq_false_iff] at t4
  refine ⟨c, t, c0, t1, ?_⟩
  show Z.vm.assignableAux (255 + 1) c t = false
  simp [Vm.assignableAux, ne, p2, t2, p5, t3, t4.1, Vm.isSubclass, sub]
theorem nfSel {Z : State} {a0 : Array Value} {y : MethodName} {C : String} (w : (Cond.selects C y y).before a0 Z = true) (s' : State) (hZ : Z.Warmed39 s'.vm) : NotFace s' y := notFace_of_selects (args := #[]) (mvT (s := s') hZ w)
theorem nfSup {Z : State} {a0 : Array Value} {y : MethodName} {S : String} (w : (Cond.superclass y.cls S).before a0 Z = true) (s' : State) (hZ : Z.Warmed39 s'.vm) : NotFace s' y := nf_super (args := #[]) (mvT (s := s') hZ w)
theorem nfTop {Z : State} {a0 : Array Value} {y : MethodName} (w : (Cond.noSuperclass y.cls).before a0 Z = true) (s' : State) (hZ : Z.Warmed39 s'.vm) : NotFace s' y := nf_top (args := #[]) (mvT (s := s') hZ w)
theorem sameOf {Z : State} {a0 : Array Value} {y : MethodName} (wd : (Cond.declares y).before a0 Z = true) (nf : ∀ s' : State, Z.Warmed39 s'.vm → NotFace s' y) (hy : y.cls ≠ "java/lang/invoke/MethodHandle" ∧ y.cls ≠ "java/lang/invoke/VarHandle") : (Cond.sameMethod y.cls y.cls y.name y.desc).before a0 Z = true := by
  obtain ⟨r, meth, h1, h2, -, -⟩ := Cond.declares_spec wd
  obtain ⟨kr, k1, k2⟩ := nf Z (State.Warmed39.refl Z) r h1
  have c1 := findClass_of_methodNamed h1
  have f := State.methodFound?_of_named h1 hy
  simp [Cond.before, Cond.holds, Cond.value, c1, f, h1, k1, k2]
theorem declOf {Z : State} {a0 : Array Value} {y : MethodName} {bytes : ByteArray} {maxL : Nat} {ret : Option FieldType} (wi : (Cond.instanceMethod y).before a0 Z = true) (wc : (Cond.code y bytes maxL ret).before a0 Z = true) : (Cond.declares y).before a0 Z = true := by
  obtain ⟨r, meth, h1, h2, h3, -⟩ := Cond.instanceMethod_spec wi
  obtain ⟨m2, cM, q1, -, -, -, -, -, -, hsig⟩ := Cond.code_spec h1 wc
  cases h2.symm.trans q1
  simp [Cond.before, Cond.holds, Cond.value, h1, h2, h3, hsig]
/-! where a walk stands -/
def Wk (W : Bool) (Z : State) (a0 : Array Value) (EL : List (String × Nat)) (n0 : Nat) (h0 : Heap) (ws : List Addr) (own : String) (p : Program) (l : Launch) (e : Env) (R : Room) (s : State) (m : MethodId) (args : Array Value) (below : List Frame) (meth : Method) (c : Code) (sf : List Addr) (T : State) (h : Heap) (k n : Nat) : Prop :=
  ∃ (vm0 : Vm) (locs : List Loc) (k0 k' n' : Nat), (k' ≤ k ∧ n' ≤ n) ∧ Stand p l e R (s.setVm vm0) m args below meth c T locs k' n' ∧ T.heap = h ∧ (s.Since vm0 k0 ∧ k0 ≤ h.size) ∧ Z.Warmed39 vm0 ∧ vm0.findClass own = some m.cls ∧ Fr n0 locs ∧ Keep h0 h ws ∧ Old Z n0 h ∧
    (∀ x ∈ sf, n0 ≤ x ∧ (x ∈ ws ∨ h0.size ≤ x) ∧ x < h.size) ∧ (W = false → vm0 = s.vm) ∧ (W = true → EW Z a0 EL ∧ CHr Z EL s.vm h0 vm0 h ∧ ∀ x ∈ sf, Safe Z EL vm0 h x)
section Kit
variable {W : Bool} {Z : State} {a0 : Array Value} {EL : List (String × Nat)} {n0 : Nat} {h0 : Heap} {ws : List Addr} {own : String} {p : Program} {l : Launch} {e : Env} {R : Room} {s : State} {m : MethodId} {args : Array Value} {below : List Frame} {meth : Method} {c : Code} {sf : List Addr} {T : State} {h : Heap} {k n : Nat}
theorem Wk.here (A : Wk W Z a0 EL n0 h0 ws own p l e R s m args below meth c sf T h k n) : At T m c below := by
  obtain ⟨_, _, _, _, _, _, X, -⟩ := A; exact X.here
theorem Wk.old (A : Wk W Z a0 EL n0 h0 ws own p l e R s m args below meth c sf T h k n) : Old Z n0 h := by
  obtain ⟨_, _, _, _, _, _, _, _, _, _, _, _, _, O, -⟩ := A; exact O
theorem Wk.keep (A : Wk W Z a0 EL n0 h0 ws own p l e R s m args below meth c sf T h k n) : Keep h0 h ws := by
  obtain ⟨_, _, _, _, _, _, _, _, _, _, _, _, K, -⟩ := A; exact K
theorem Wk.zle (A : Wk W Z a0 EL n0 h0 ws own p l e R s m args below meth c sf T h k n) : n0 ≤ h.size := by
  obtain ⟨q, E⟩ := A.old; rw [← q]; exact E.1
theorem Wk.nle (A : Wk W Z a0 EL n0 h0 ws own p l e R s m args below meth c sf T h k n) {x : Addr} (hx : x ∈ sf) : n0 ≤ x := by
  obtain ⟨_, _, _, _, _, _, _, _, _, _, _, _, _, _, f, -⟩ := A; exact (f x hx).1
theorem Wk.mono {k' n' : Nat} (A : Wk W Z a0 EL n0 h0 ws own p l e R s m args below meth c sf T h k n) (hk : k ≤ k') (hn : n ≤ n') : Wk W Z a0 EL n0 h0 ws own p l e R s m args below meth c sf T h k' n' := by
  obtain ⟨vm0, locs, k0, k1, n1, ⟨q1, q2⟩, r⟩ := A
  exact ⟨vm0, locs, k0, k1, n1, ⟨Nat.le_trans q1 hk, Nat.le_trans q2 hn⟩, r⟩
theorem Wk.less {sf' : List Addr} (A : Wk W Z a0 EL n0 h0 ws own p l e R s m args below meth c sf T h k n) (q : ∀ x ∈ sf', x ∈ sf) : Wk W Z a0 EL n0 h0 ws own p l e R s m args below meth c sf' T h k n := by
  obtain ⟨vm0, locs, k0, k1, n1, b, X, eT, S, hZ, ho, N, K, O, f, w1, w2⟩ := A
  exact ⟨vm0, locs, k0, k1, n1, b, X, eT, S, hZ, ho, N, K, O, fun x hx => f x (q x hx), w1, fun e => ⟨(w2 e).1, (w2 e).2.1, fun x hx => (w2 e).2.2 x (q x hx)⟩⟩
theorem Wk.newO (A : Wk W Z a0 EL n0 h0 ws own p l e R s m args below meth c sf T h k n) (hx : p.tables.exec = Jvm.exec) {C : String} {index q : Nat} (w : (Cond.classLink own index C).before a0 Z = true) (wi : (Cond.instantiable C q).before a0 Z = true) (wz : (Cond.initialized C).before a0 Z = true)
    {g : JFrame} (hg : g.method = m) (hd : decode c.code g.pc = .ok (.new index, 3)) (hc : k + 1 ≤ R.cells) (hl : n + q ≤ R.slots) :
    ∃ (a : Addr) (T' : State) (h' : Heap), Wk W Z a0 EL n0 h0 ws own p l e R s m args below meth c (a :: sf) T' h' (k + 1) (n + q) ∧ Ext h h' ∧ h.size = a ∧ Exa Z h' a C ∧ (∀ {O nm d : String} {ty : FieldType}, Laid Z a0 C O nm d → parseFieldDescriptor d = some ty → Fld Z h' a O nm d (defaultValue ty)) ∧
      ∀ t, Steps p.tables e below (T'.setTop { g with pc := g.pc + 3, stack := .ref a :: g.stack }) t → Steps p.tables e below (T.setTop g) t := by
  obtain ⟨vm0, locs, k0, k1, n1, ⟨b1, b2⟩, X, eT, ⟨S, S0⟩, hZ, ho, N, K, O, f, w1, w2⟩ := A
  obtain ⟨T', h', X', e', E, Ex, D, -, st⟩ := RoadKit.newO X hx hZ ho w wi wz eT hg hd (by omega) (by omega)
  refine ⟨_, T', h', ⟨vm0, locs, k0, _, _, ⟨by omega, by omega⟩, X', e', ⟨S, Nat.le_trans S0 E.1⟩, hZ, ho, N, K.ext E, O.ext E, ?_, w1, ?_⟩, E, rfl, Ex, D, st⟩
  · intro x hx'
    rcases List.mem_cons.mp hx' with rfl | hx'
    · exact ⟨by have := O.1; have := O.2.1; omega, Or.inr K.1, Ex.lt⟩
    · exact ⟨(f x hx').1, (f x hx').2.1, Nat.lt_of_lt_of_le (f x hx').2.2 E.1⟩
  · intro ew
    obtain ⟨v1, v2, v3⟩ := w2 ew
    refine ⟨v1, v2.trans (CHr.ext E v2.1), fun x hx' => ?_⟩
    rcases List.mem_cons.mp hx' with rfl | hx'
    · exact Safe.ext E v2.1 (Safe.new (Nat.le_refl _))
    · exact Safe.ext E v2.1 (v3 x hx')
theorem Wk.newP (A : Wk W Z a0 EL n0 h0 ws own p l e R s m args below meth c sf T h k n) (hx : p.tables.exec = Jvm.exec) {aty : ArrayType} (w : (Cond.arrayClass (newarray.typeOf aty)).before a0 Z = true)
    {g : JFrame} (hg : g.method = m) (hd : decode c.code g.pc = .ok (.newarray aty, 2)) {N : Int32} {rest : List Value} (hs : g.stack = .int N :: rest) (hn : ¬ N < 0) {cap : Nat} (hcap : N.toNatClampNeg ≤ cap) (hb : cap * 8 ≤ 536870912) (hc : k + 1 ≤ R.cells) (hl : n + cap ≤ R.slots) :
    ∃ (a : Addr) (T' : State) (h' : Heap) (kA : ClassId), Wk W Z a0 EL n0 h0 ws own p l e R s m args below meth c (a :: sf) T' h' (k + 1) (n + cap) ∧ Ext h h' ∧ h.size = a ∧ Arv Z h' a kA (newarray.typeOf aty) N (List.replicate cap (defaultValue (newarray.typeOf aty))) (defaultValue (newarray.typeOf aty)) ∧
      ∀ t, Steps p.tables e below (T'.setTop { g with pc := g.pc + 2, stack := .ref a :: rest }) t → Steps p.tables e below (T.setTop g) t := by
  obtain ⟨vm0, locs, k0, k1, n1, ⟨b1, b2⟩, X, eT, ⟨S, S0⟩, hZ, ho, Nf, K, O, f, w1, w2⟩ := A
  obtain ⟨T', h', kA, X', e', E, Ar, st⟩ := RoadKit.newP X hx hZ w eT hg hd hs hn hcap hb (by omega) (by omega)
  have V := (Arv.new Ar hn).pad (pad_rep [] (defaultValue (newarray.typeOf aty)) cap)
  refine ⟨_, T', h', kA, ⟨vm0, locs, k0, _, _, ⟨by omega, by omega⟩, X', e', ⟨S, Nat.le_trans S0 E.1⟩, hZ, ho, Nf, K.ext E, O.ext E, ?_, w1, ?_⟩, E, rfl, V, st⟩
  · intro x hx'
    rcases List.mem_cons.mp hx' with rfl | hx'
    · exact ⟨by have := O.1; have := O.2.1; omega, Or.inr K.1, Ar.lt⟩
    · exact ⟨(f x hx').1, (f x hx').2.1, Nat.lt_of_lt_of_le (f x hx').2.2 E.1⟩
  · intro ew
    obtain ⟨v1, v2, v3⟩ := w2 ew
    refine ⟨v1, v2.trans (CHr.ext E v2.1), fun x hx' => ?_⟩
    rcases List.mem_cons.mp hx' with rfl | hx'
    · exact Safe.ext E v2.1 (Safe.new (Nat.le_refl _))
    · exact Safe.ext E v2.1 (v3 x hx')
theorem Wk.newPE (A : Wk W Z a0 EL n0 h0 ws own p l e R s m args below meth c sf T h k n) (hx : p.tables.exec = Jvm.exec) {aty : ArrayType} (w : (Cond.arrayClass (newarray.typeOf aty)).before a0 Z = true)
    {g : JFrame} (hg : g.method = m) (hd : decode c.code g.pc = .ok (.newarray aty, 2)) {N : Int32} {rest : List Value} (hs : g.stack = .int N :: rest) (hn : ¬ N < 0) {cap : Nat} (hcap : N.toNatClampNeg ≤ cap) (hb : cap * 8 ≤ 536870912) (hc : k + 1 ≤ R.cells) (hl : n + cap ≤ R.slots) {ad : String} (had : "[" ++ (newarray.typeOf aty).toString = ad) :
    ∃ (a : Addr) (T' : State) (h' : Heap) (kA : ClassId), Wk W Z a0 EL n0 h0 ws own p l e R s m args below meth c (a :: sf) T' h' (k + 1) (n + cap) ∧ Ext h h' ∧ h.size = a ∧ Arv Z h' a kA (newarray.typeOf aty) N (List.replicate cap (defaultValue (newarray.typeOf aty))) (defaultValue (newarray.typeOf aty)) ∧ Exa Z h' a ad ∧
      ∀ t, Steps p.tables e below (T'.setTop { g with pc := g.pc + 2, stack := .ref a :: rest }) t → Steps p.tables e below (T.setTop g) t := by
  obtain ⟨vm0, locs, k0, k1, n1, ⟨b1, b2⟩, X, eT, ⟨S, S0⟩, hZ, ho, Nf, K, O, f, w1, w2⟩ := A
  obtain ⟨T', h', kA, X', e', E, Ar, Ex, st⟩ := RoadKit.newPE X hx hZ w eT hg hd hs hn hcap hb (by omega) (by omega) had
  have V := (Arv.new Ar hn).pad (pad_rep [] (defaultValue (newarray.typeOf aty)) cap)
  refine ⟨_, T', h', kA, ⟨vm0, locs, k0, _, _, ⟨by omega, by omega⟩, X', e', ⟨S, Nat.le_trans S0 E.1⟩, hZ, ho, Nf, K.ext E, O.ext E, ?_, w1, ?_⟩, E, rfl, V, Ex, st⟩
  · intro x hx'
    rcases List.mem_cons.mp hx' with rfl | hx'
    · exact ⟨by have := O.1; have := O.2.1; omega, Or.inr K.1, Ar.lt⟩
    · exact ⟨(f x hx').1, (f x hx').2.1, Nat.lt_of_lt_of_le (f x hx').2.2 E.1⟩
  · intro ew
    obtain ⟨v1, v2, v3⟩ := w2 ew
    refine ⟨v1, v2.trans (CHr.ext E v2.1), fun x hx' => ?_⟩
    rcases List.mem_cons.mp hx' with rfl | hx'
    · exact Safe.ext E v2.1 (Safe.new (Nat.le_refl _))
    · exact Safe.ext E v2.1 (v3 x hx')
theorem Wk.clone (A : Wk W Z a0 EL n0 h0 ws own p l e R s m args below meth c sf T h k n) (hx : p.tables.exec = Jvm.exec) {ad : String} {index : Nat}
    (v1 : (Cond.methodLink own index ⟨ad, "clone", "()Ljava/lang/Object;"⟩).before a0 Z = true) (v2 : (Cond.sameMethod ad "java/lang/Object" "clone" "()Ljava/lang/Object;").before a0 Z = true) (v3 : (Cond.native ⟨"java/lang/Object", "clone", "()Ljava/lang/Object;"⟩).before a0 Z = true)
    (v4 : (Cond.instanceMethod ⟨"java/lang/Object", "clone", "()Ljava/lang/Object;"⟩).before a0 Z = true) (v5 : (Cond.selects ad ⟨ad, "clone", "()Ljava/lang/Object;"⟩ ⟨"java/lang/Object", "clone", "()Ljava/lang/Object;"⟩).before a0 Z = true) (v6 : (Cond.castable ad "java/lang/Cloneable").before a0 Z = true)
    {b : Addr} {kb : ClassId} {ty : FieldType} {z : Int32} {vs : List Value} {d : Value} (V : Arv Z h b kb ty z vs d) (E : Exa Z h b ad) {g : JFrame} (hg : g.method = m) (hsize : g.locals.size = c.maxLocals) {rest : List Value} (hs : g.stack = .ref b :: rest) (hd : decode c.code g.pc = .ok (.invokevirtual index, 3))
    (hf : 1 ≤ R.frames) {Wd cap : Nat} (hW : 2 * g.monitorRoom + (rest.map fun v => v.category).sum ≤ Wd) (hl : Wd + 14 ≤ R.locals) (hcap : z.toNatClampNeg ≤ cap) (hc : k + 1 ≤ R.cells) (hsl : n + cap ≤ R.slots) :
    ∃ (a : Addr) (T' : State) (h' : Heap), Wk W Z a0 EL n0 h0 ws own p l e R s m args below meth c (a :: sf) T' h' (k + 1) (n + cap) ∧ Ext h h' ∧ h.size = a ∧ Arv Z h' a kb ty z vs d ∧ Exa Z h' a ad ∧
      ∀ t, Steps p.tables e below (T'.setTop { g with pc := g.pc + 3, stack := .ref a :: rest }) t → Steps p.tables e below (T.setTop g) t := by
  obtain ⟨vm0, locs, k0, k1, n1, ⟨b1, b2⟩, X, eT, ⟨S, S0⟩, hZ, ho, Nf, K, O, f, w1, w2⟩ := A
  obtain ⟨T', h', X', e', Ex, Ar, Ea, st⟩ := RoadKit.cloneH X hx hZ ho v1 v2 v3 v4 v5 v6 eT V.arh E hg hsize hs hd hf hW hl hcap (by omega) (by omega)
  refine ⟨_, T', h', ⟨vm0, locs, k0, _, _, ⟨by omega, by omega⟩, X', e', ⟨S, Nat.le_trans S0 Ex.1⟩, hZ, ho, Nf, K.ext Ex, O.ext Ex, ?_, w1, ?_⟩, Ex, rfl, Ar, Ea, st⟩
  · intro x hx'
    rcases List.mem_cons.mp hx' with rfl | hx'
    · exact ⟨by have := O.1; have := O.2.1; omega, Or.inr K.1, Ea.lt⟩
    · exact ⟨(f x hx').1, (f x hx').2.1, Nat.lt_of_lt_of_le (f x hx').2.2 Ex.1⟩
  · intro ew
    obtain ⟨q1, q2, q3⟩ := w2 ew
    refine ⟨q1, q2.trans (CHr.ext Ex q2.1), fun x hx' => ?_⟩
    rcases List.mem_cons.mp hx' with rfl | hx'
    · exact Safe.ext Ex q2.1 (Safe.new (Nat.le_refl _))
    · exact Safe.ext Ex q2.1 (q3 x hx')
/-- one place of a cell of our own is written -/
theorem Wk.wrote {T' : State} {h' : Heap} {a : Addr} {sl : Nat} {v : Value} {vm0 : Vm} {locs : List Loc} {k0 k1 n1 : Nat} (X' : Stand p l e R (s.setVm vm0) m args below meth c T' (locs ++ [⟨a, sl⟩]) k1 n1) (e' : T'.heap = h') (Wr' : Wr h h' a sl v) (ha : a ∈ sf)
    (b : k1 ≤ k ∧ n1 ≤ n) (S : s.Since vm0 k0 ∧ k0 ≤ h.size) (hZ : Z.Warmed39 vm0) (ho : vm0.findClass own = some m.cls) (N : Fr n0 locs) (K : Keep h0 h ws) (O : Old Z n0 h) (f : ∀ x ∈ sf, n0 ≤ x ∧ (x ∈ ws ∨ h0.size ≤ x) ∧ x < h.size) (w1 : W = false → vm0 = s.vm) (w2 : W = true → EW Z a0 EL ∧ CHr Z EL s.vm h0 vm0 h ∧ ∀ x ∈ sf, Safe Z EL vm0 h x) :
    Wk W Z a0 EL n0 h0 ws own p l e R s m args below meth c sf T' h' k n := by
  obtain ⟨f1, f2, f3⟩ := f a ha
  refine ⟨vm0, _, k0, k1, n1, b, X', e', ⟨S.1, by rw [Wr'.size]; exact S.2⟩, hZ, ho, Fr.snoc X' N f1, K.wr Wr' f2, O.wr Wr' f1, fun x hx => ?_, w1, fun ew => ?_⟩
  · rw [Wr'.size]; exact f x hx
  · obtain ⟨v1, v2, v3⟩ := w2 ew
    exact ⟨v1, v2.trans (CHr.wr Wr' (v3 a ha) v2.1), fun x hx => Safe.wr Wr' (v3 a ha) v2.1 (v3 x hx)⟩
theorem Wk.stC (A : Wk W Z a0 EL n0 h0 ws own p l e R s m args below meth c sf T h k n) (hx : p.tables.exec = Jvm.exec) {b : Addr} {kb : ClassId} {N : Int32} {vs : List Value} {d : Value} (V : Arv Z h b kb .char N vs d) (hb : b ∈ sf) {j x : Int32} (i : Nat) (hj : j.toNatClampNeg = i) (hjn : ¬ j < 0 ∧ j < N) (hi : i < vs.length)
    {g : JFrame} (hg : g.method = m) {rest : List Value} (hs : g.stack = .int x :: .int j :: .ref b :: rest) (hd : decode c.code g.pc = .ok (.castore, 1)) :
    ∃ (T' : State) (h' : Heap), Wk W Z a0 EL n0 h0 ws own p l e R s m args below meth c sf T' h' k n ∧ Keep h h' [b] ∧ Arv Z h' b kb .char N (vs.set i (.int (nar .char x))) d ∧
      ∀ t, Steps p.tables e below (T'.setTop { g with pc := g.pc + 1, stack := rest }) t → Steps p.tables e below (T.setTop g) t := by
  obtain ⟨vm0, locs, k0, k1, n1, bb, X, eT, S, hZ, ho, Nf, K, O, f, w1, w2⟩ := A
  obtain ⟨cl, Ar, q, Sz, Nn, H, G⟩ := V
  obtain ⟨T', h', X', e', Wr', st⟩ := RoadKit.stC X hx hZ eT Ar (j := j) (inb_of Sz hjn) hg hs hd
  exact ⟨T', h', Wk.wrote X' e' Wr' hb bb S hZ ho Nf K O f w1 w2, Keep.of_wr Wr', Arv.set Ar q Sz Nn H G (fits_nar_char _) Wr' i hj hi, st⟩
theorem Wk.stB (A : Wk W Z a0 EL n0 h0 ws own p l e R s m args below meth c sf T h k n) (hx : p.tables.exec = Jvm.exec) {b : Addr} {kb : ClassId} {N : Int32} {vs : List Value} {d : Value} (V : Arv Z h b kb .byte N vs d) (hb : b ∈ sf) {j x : Int32} (i : Nat) (hj : j.toNatClampNeg = i) (hjn : ¬ j < 0 ∧ j < N) (hi : i < vs.length) (hf : fits .byte (.int (nar .byte x)) = true)
    {g : JFrame} (hg : g.method = m) {rest : List Value} (hs : g.stack = .int x :: .int j :: .ref b :: rest) (hd : decode c.code g.pc = .ok (.bastore, 1)) :
    ∃ (T' : State) (h' : Heap), Wk W Z a0 EL n0 h0 ws own p l e R s m args below meth c sf T' h' k n ∧ Keep h h' [b] ∧ Arv Z h' b kb .byte N (vs.set i (.int (nar .byte x))) d ∧
      ∀ t, Steps p.tables e below (T'.setTop { g with pc := g.pc + 1, stack := rest }) t → Steps p.tables e below (T.setTop g) t := by
  obtain ⟨vm0, locs, k0, k1, n1, bb, X, eT, S, hZ, ho, Nf, K, O, f, w1, w2⟩ := A
  obtain ⟨cl, Ar, q, Sz, Nn, H, G⟩ := V
  obtain ⟨T', h', X', e', Wr', st⟩ := RoadKit.stB X hx hZ eT Ar (j := j) (inb_of Sz hjn) hg hs hd
  exact ⟨T', h', Wk.wrote X' e' Wr' hb bb S hZ ho Nf K O f w1 w2, Keep.of_wr Wr', Arv.set Ar q Sz Nn H G hf Wr' i hj hi, st⟩
theorem Wk.putF (A : Wk W Z a0 EL n0 h0 ws own p l e R s m args below meth c sf T h k n) (hx : p.tables.exec = Jvm.exec) {R0 O fn d C : String} {index kk : Nat} {ty : FieldType} (w : (Cond.fieldLink own index R0 fn d).before a0 Z = true) (via : Via Z R0 O fn d) {a : Addr} (ha : a ∈ sf) {v v' old : Value} (F : Fld Z h a O fn d old) (E : Exa Z h a C)
    (L : (Cond.lays C O fn d).before a0 Z = true ∨ ((Cond.laysFinal C O fn d).before a0 Z = true ∧ own = O ∧ meth.name = "<init>")) (wi : (Cond.instantiable C kk).before a0 Z = true) (hty : parseFieldDescriptor d = some ty) (hn : narrow ty v = v') (hf : fits ty v' = true) {g : JFrame} (hg : g.method = m) {rest : List Value} (hs : g.stack = v :: .ref a :: rest) (hd : decode c.code g.pc = .ok (.putfield index, 3)) :
    ∃ (T' : State) (h' : Heap), Wk W Z a0 EL n0 h0 ws own p l e R s m args below meth c sf T' h' k n ∧ Keep h h' [a] ∧ Wr h h' a (RoadKit.slotOf Z O fn d) v' ∧
      ∀ t, Steps p.tables e below (T'.setTop { g with pc := g.pc + 3, stack := rest }) t → Steps p.tables e below (T.setTop g) t := by
  obtain ⟨vm0, locs, k0, k1, n1, bb, X, eT, S, hZ, ho, Nf, K, Od, f, w1, w2⟩ := A
  obtain ⟨T', h', X', e', Wr', st⟩ := RoadKit.putFN X hx hZ ho w via eT F E L wi hty hn hf hg hs hd
  exact ⟨T', h', Wk.wrote X' e' Wr' ha bb S hZ ho Nf K Od f w1 w2, Keep.of_wr Wr', Wr', st⟩
/-- a step that leaves the heap -/
theorem Wk.stay {T' : State} {vm0 : Vm} {locs : List Loc} {k0 k1 n1 : Nat} (X' : Stand p l e R (s.setVm vm0) m args below meth c T' locs k1 n1) (e' : T'.heap = h)
    (b : k1 ≤ k ∧ n1 ≤ n) (S : s.Since vm0 k0 ∧ k0 ≤ h.size) (hZ : Z.Warmed39 vm0) (ho : vm0.findClass own = some m.cls) (N : Fr n0 locs) (K : Keep h0 h ws) (O : Old Z n0 h) (f : ∀ x ∈ sf, n0 ≤ x ∧ (x ∈ ws ∨ h0.size ≤ x) ∧ x < h.size) (w1 : W = false → vm0 = s.vm) (w2 : W = true → EW Z a0 EL ∧ CHr Z EL s.vm h0 vm0 h ∧ ∀ x ∈ sf, Safe Z EL vm0 h x) :
    Wk W Z a0 EL n0 h0 ws own p l e R s m args below meth c sf T' h k n := ⟨vm0, locs, k0, k1, n1, b, X', e', S, hZ, ho, N, K, O, f, w1, w2⟩
theorem Wk.getF (A : Wk W Z a0 EL n0 h0 ws own p l e R s m args below meth c sf T h k n) (hx : p.tables.exec = Jvm.exec) {R0 O fn d : String} {index : Nat} (w : (Cond.fieldLink own index R0 fn d).before a0 Z = true) (via : Via Z R0 O fn d) {a : Addr} {v : Value} (F : Fld Z h a O fn d v) {g : JFrame} (hg : g.method = m) {rest : List Value} (hs : g.stack = .ref a :: rest) (hd : decode c.code g.pc = .ok (.getfield index, 3)) :
    ∃ (T' : State), Wk W Z a0 EL n0 h0 ws own p l e R s m args below meth c sf T' h k n ∧
      ∀ t, Steps p.tables e below (T'.setTop { g with pc := g.pc + 3, stack := v :: rest }) t → Steps p.tables e below (T.setTop g) t := by
  obtain ⟨vm0, locs, k0, k1, n1, bb, X, eT, S, hZ, ho, Nf, K, O, f, w1, w2⟩ := A
  obtain ⟨T', X', e', st⟩ := RoadKit.getF X hx hZ ho (host := "") (Or.inl w) via eT F hg hs hd
  exact ⟨T', Wk.stay X' e' bb S hZ ho Nf K O f w1 w2, st⟩
theorem Wk.getS (A : Wk W Z a0 EL n0 h0 ws own p l e R s m args below meth c sf T h k n) (hx : p.tables.exec = Jvm.exec) {R0 O fn d : String} {index : Nat} (w : (Cond.fieldLink own index R0 fn d).before a0 Z = true) (via : Via Z R0 O fn d) {v : Value} (F : Sta Z h O fn d v) {g : JFrame} (hg : g.method = m) (hd : decode c.code g.pc = .ok (.getstatic index, 3)) :
    ∃ (T' : State), Wk W Z a0 EL n0 h0 ws own p l e R s m args below meth c sf T' h k n ∧
      ∀ t, Steps p.tables e below (T'.setTop { g with pc := g.pc + 3, stack := v :: g.stack }) t → Steps p.tables e below (T.setTop g) t := by
  obtain ⟨vm0, locs, k0, k1, n1, bb, X, eT, S, hZ, ho, Nf, K, O, f, w1, w2⟩ := A
  obtain ⟨T', X', e', st⟩ := RoadKit.getS X hx hZ (host := "") ho w via eT F hg hd
  exact ⟨T', Wk.stay X' e' bb S hZ ho Nf K O f w1 w2, st⟩
theorem Wk.castY (A : Wk W Z a0 EL n0 h0 ws own p l e R s m args below meth c sf T h k n) (hx : p.tables.exec = Jvm.exec) {KK : String} {index : Nat} (w : (Cond.classLink own index KK).before a0 Z = true) {a : Addr} (F : Ins Z h a KK true) {g : JFrame} (hg : g.method = m) {rest : List Value} (hs : g.stack = .ref a :: rest) (hd : decode c.code g.pc = .ok (.checkcast index, 3)) :
    ∃ (T' : State), Wk W Z a0 EL n0 h0 ws own p l e R s m args below meth c sf T' h k n ∧
      ∀ t, Steps p.tables e below (T'.setTop { g with pc := g.pc + 3 }) t → Steps p.tables e below (T.setTop g) t := by
  obtain ⟨vm0, locs, k0, k1, n1, bb, X, eT, S, hZ, ho, Nf, K, O, f, w1, w2⟩ := A
  obtain ⟨T', X', e', st⟩ := RoadKit.castY X hx hZ ho w eT F hg hs hd
  exact ⟨T', Wk.stay X' e' bb S hZ ho Nf K O f w1 w2, st⟩
theorem Wk.instY (A : Wk W Z a0 EL n0 h0 ws own p l e R s m args below meth c sf T h k n) (hx : p.tables.exec = Jvm.exec) {KK : String} {index : Nat} (w : (Cond.classLink own index KK).before a0 Z = true) {a : Addr} (F : Ins Z h a KK true) {g : JFrame} (hg : g.method = m) {rest : List Value} (hs : g.stack = .ref a :: rest) (hd : decode c.code g.pc = .ok (.instanceof index, 3)) :
    ∃ (T' : State), Wk W Z a0 EL n0 h0 ws own p l e R s m args below meth c sf T' h k n ∧
      ∀ t, Steps p.tables e below (T'.setTop { g with pc := g.pc + 3, stack := .int 1 :: rest }) t → Steps p.tables e below (T.setTop g) t := by
  obtain ⟨vm0, locs, k0, k1, n1, bb, X, eT, S, hZ, ho, Nf, K, O, f, w1, w2⟩ := A
  obtain ⟨T', X', e', st⟩ := RoadKit.instY X hx hZ ho w eT F hg hs hd
  exact ⟨T', Wk.stay X' e' bb S hZ ho Nf K O f w1 w2, st⟩
theorem Wk.instNo (A : Wk W Z a0 EL n0 h0 ws own p l e R s m args below meth c sf T h k n) (hx : p.tables.exec = Jvm.exec) {KK C : String} {index : Nat} (w : (Cond.classLink own index KK).before a0 Z = true) {a : Addr} (E : Exa Z h a C) (F : ∃ c t, Z.vm.findClass C = some c ∧ Z.vm.findClass KK = some t ∧ Z.vm.assignable c t = false) {g : JFrame} (hg : g.method = m) {rest : List Value} (hs : g.stack = .ref a :: rest) (hd : decode c.code g.pc = .ok (.instanceof index, 3)) :
    ∃ (T' : State), Wk W Z a0 EL n0 h0 ws own p l e R s m args below meth c sf T' h k n ∧
      ∀ t, Steps p.tables e below (T'.setTop { g with pc := g.pc + 3, stack := .int 0 :: rest }) t → Steps p.tables e below (T.setTop g) t := by
  obtain ⟨vm0, locs, k0, k1, n1, bb, X, eT, S, hZ, ho, Nf, K, O, f, w1, w2⟩ := A
  obtain ⟨T', X', e', st⟩ := RoadKit.instNo X hx hZ ho w eT E F hg hs hd
  exact ⟨T', Wk.stay X' e' bb S hZ ho Nf K O f w1 w2, st⟩
theorem Wk.instNull (A : Wk W Z a0 EL n0 h0 ws own p l e R s m args below meth c sf T h k n) (hx : p.tables.exec = Jvm.exec) {index : Nat} {g : JFrame} (hg : g.method = m) {rest : List Value} (hs : g.stack = .null :: rest) (hd : decode c.code g.pc = .ok (.instanceof index, 3)) :
    ∀ t, Steps p.tables e below (T.setTop { g with pc := g.pc + 3, stack := .int 0 :: rest }) t → Steps p.tables e below (T.setTop g) t := by
  obtain ⟨vm0, locs, k0, k1, n1, bb, X, eT, S, hZ, ho, Nf, K, O, f, w1, w2⟩ := A
  exact X.instanceofNull hx hg hs hd
theorem Wk.castNull (A : Wk W Z a0 EL n0 h0 ws own p l e R s m args below meth c sf T h k n) (hx : p.tables.exec = Jvm.exec) {index : Nat} {g : JFrame} (hg : g.method = m) {rest : List Value} (hs : g.stack = .null :: rest) (hd : decode c.code g.pc = .ok (.checkcast index, 3)) :
    ∀ t, Steps p.tables e below (T.setTop { g with pc := g.pc + 3 }) t → Steps p.tables e below (T.setTop g) t := by
  obtain ⟨vm0, locs, k0, k1, n1, bb, X, eT, S, hZ, ho, Nf, K, O, f, w1, w2⟩ := A
  exact X.checkcastNull hx hg hs hd
theorem Wk.initO (A : Wk W Z a0 EL n0 h0 ws own p l e R s m args below meth c sf T h k n) (hx : p.tables.exec = Jvm.exec) {idx : Nat} (w1' : (Cond.methodLink own idx Lib.objectInit).before a0 Z = true) (w2' : (Cond.instanceMethod Lib.objectInit).before a0 Z = true) (w3' : (Cond.code Lib.objectInit ⟨#[0xb1]⟩ 1 none).before a0 Z = true) {g : JFrame} (hg : g.method = m) (hsize : g.locals.size = c.maxLocals) {a : Addr} {rest : List Value} (hs : g.stack = .ref a :: rest) (hd : decode c.code g.pc = .ok (.invokespecial idx, 3))
    (hf : 1 ≤ R.frames) {Wd : Nat} (hW : 2 * g.monitorRoom + (rest.map fun v => v.category).sum ≤ Wd) (hl : Wd + 12 ≤ R.locals) :
    ∃ (T' : State), Wk W Z a0 EL n0 h0 ws own p l e R s m args below meth c sf T' h k n ∧
      ∀ t, Steps p.tables e below (T'.setTop { g with pc := g.pc + 3, stack := rest }) t → Steps p.tables e below (T.setTop g) t := by
  obtain ⟨vm0, locs, k0, k1, n1, bb, X, eT, S, hZ, ho, Nf, K, O, f, w1, w2⟩ := A
  obtain ⟨T', X', e', st⟩ := RoadKit.initO X hx hZ ho w1' w2' w3' eT hg hsize hs hd hf hW hl
  exact ⟨T', Wk.stay X' e' bb S hZ ho Nf K O f w1 w2, st⟩
theorem Wk.ldcI (A : Wk W Z a0 EL n0 h0 ws own p l e R s m args below meth c sf T h k n) (hx : p.tables.exec = Jvm.exec) {index : Nat} {v : Int32} (w : (Cond.constant own index v).before a0 Z = true) {g : JFrame} (hg : g.method = m) (hd : decode c.code g.pc = .ok (.ldc index, 2)) :
    ∀ t, Steps p.tables e below (T.setTop { g with pc := g.pc + 2, stack := .int v :: g.stack }) t → Steps p.tables e below (T.setTop g) t := by
  obtain ⟨vm0, locs, k0, k1, n1, bb, X, eT, S, hZ, ho, Nf, K, O, f, w1, w2⟩ := A
  exact X.ldcInt hx ho (mvT (s := s.setVm vm0) hZ w) hg hd
theorem Wk.ldcL (A : Wk W Z a0 EL n0 h0 ws own p l e R s m args below meth c sf T h k n) (hx : p.tables.exec = Jvm.exec) {index : Nat} {v : Int64} (w : (Cond.constantLong own index v).before a0 Z = true) {g : JFrame} (hg : g.method = m) (hd : decode c.code g.pc = .ok (.ldc2_w index, 3)) :
    ∀ t, Steps p.tables e below (T.setTop { g with pc := g.pc + 3, stack := .long v :: g.stack }) t → Steps p.tables e below (T.setTop g) t := by
  obtain ⟨vm0, locs, k0, k1, n1, bb, X, eT, S, hZ, ho, Nf, K, O, f, w1, w2⟩ := A
  exact X.ldc2Long hx ho (mvT (s := s.setVm vm0) hZ w) hg hd
theorem Wk.ldB (A : Wk W Z a0 EL n0 h0 ws own p l e R s m args below meth c sf T h k n) (hx : p.tables.exec = Jvm.exec) {b : Addr} {kb : ClassId} {N : Int32} {vs : List Value} {d : Value} (V : Arv Z h b kb .byte N vs d) {j : Int32} (i : Nat) (hj : j.toNatClampNeg = i) (hjn : ¬ j < 0 ∧ j < N) {v : Value} (hv : vs.getD i d = v)
    {g : JFrame} (hg : g.method = m) {rest : List Value} (hs : g.stack = .int j :: .ref b :: rest) (hd : decode c.code g.pc = .ok (.baload, 1)) :
    ∀ t, Steps p.tables e below (T.setTop { g with pc := g.pc + 1, stack := v :: rest }) t → Steps p.tables e below (T.setTop g) t := by
  obtain ⟨vm0, locs, k0, k1, n1, bb, X, eT, S, hZ, ho, Nf, K, O, f, w1, w2⟩ := A
  obtain ⟨cl, Ar, q, Sz, Nn, H, G⟩ := V
  have hin := inb_of Sz hjn
  subst hj
  exact fun t kk => X.baloadBytes hx (by rw [eT]; exact Ar.1) (State.isArrayOf_alike hZ.alike Ar.2.1) Ar.2.2 hin (by rw [H _ (Nat.lt_of_not_le fun q => hin (Or.inr q)), hv]) hg hs hd t kk
theorem Wk.ldC (A : Wk W Z a0 EL n0 h0 ws own p l e R s m args below meth c sf T h k n) (hx : p.tables.exec = Jvm.exec) {b : Addr} {kb : ClassId} {N : Int32} {vs : List Value} {d : Value} (V : Arv Z h b kb .char N vs d) {j : Int32} (i : Nat) (hj : j.toNatClampNeg = i) (hjn : ¬ j < 0 ∧ j < N) {v : Value} (hv : vs.getD i d = v)
    {g : JFrame} (hg : g.method = m) {rest : List Value} (hs : g.stack = .int j :: .ref b :: rest) (hd : decode c.code g.pc = .ok (.caload, 1)) :
    ∀ t, Steps p.tables e below (T.setTop { g with pc := g.pc + 1, stack := v :: rest }) t → Steps p.tables e below (T.setTop g) t := by
  obtain ⟨vm0, locs, k0, k1, n1, bb, X, eT, S, hZ, ho, Nf, K, O, f, w1, w2⟩ := A
  obtain ⟨cl, Ar, q, Sz, Nn, H, G⟩ := V
  have hin := inb_of Sz hjn
  subst hj
  exact fun t kk => X.caload hx (by rw [eT]; exact Ar.1) (State.isArrayOf_alike hZ.alike Ar.2.1) Ar.2.2 hin (by rw [H _ (Nat.lt_of_not_le fun q => hin (Or.inr q)), hv]) hg hs hd t kk
theorem Wk.alen (A : Wk W Z a0 EL n0 h0 ws own p l e R s m args below meth c sf T h k n) (hx : p.tables.exec = Jvm.exec) {b : Addr} {kb : ClassId} {ty : FieldType} {N : Int32} {vs : List Value} {d : Value} (V : Arv Z h b kb ty N vs d) {g : JFrame} (hg : g.method = m) {rest : List Value} (hs : g.stack = .ref b :: rest) (hd : decode c.code g.pc = .ok (.arraylength, 1)) :
    ∀ t, Steps p.tables e below (T.setTop { g with pc := g.pc + 1, stack := .int N :: rest }) t → Steps p.tables e below (T.setTop g) t := by
  obtain ⟨vm0, locs, k0, k1, n1, bb, X, eT, S, hZ, ho, Nf, K, O, f, w1, w2⟩ := A
  obtain ⟨cl, Ar, q, Sz, Nn, H, G⟩ := V
  intro t kk
  refine X.arraylength hx (cell := cl) (by rw [eT]; exact Ar.1) (State.isArrayOf_alike (Vm.Alike.trans (Vm.Alike.refl _) hZ.alike) Ar.2.1) hg hs hd _ ?_
  rw [len_of Sz Nn]; exact kk
/-! what pays a call -/
abbrev PayN (l : Launch) (R : Room) (p : Program) (e : Env) (below : List Frame) (s : State) (args : Array Value) (y : MethodName) (len Wd : Nat) (as : Array Value) (h : Heap) (kc ks : Nat) (Q : Option Value → Heap → List Loc → Prop) : Prop :=
  Back l R p e below s args y len Wd (fun A a => a = as ∧ A.U.heap = h ∧ A.cells + kc ≤ R.cells ∧ A.slots + ks ≤ R.slots) (fun A _ v B => ∃ L, Q v B.U.heap L ∧ B.locs = A.locs ++ L ∧ B.cells = A.cells + kc ∧ B.slots = A.slots + ks)
abbrev PayW (Z : State) (EL : List (String × Nat)) (l : Launch) (R : Room) (p : Program) (e : Env) (below : List Frame) (s : State) (vm0 : Vm) (args : Array Value) (y : MethodName) (len Wd : Nat) (as : Array Value) (h : Heap) (kc ks : Nat) (Q : Option Value → Heap → List Loc → Prop) : Prop :=
  BackS l R p e below (s.setVm vm0) args y len Wd (fun A a => a = as ∧ A.U.heap = h ∧ A.cells + kc ≤ R.cells ∧ A.slots + ks ≤ R.slots) (fun A _ v B => ∃ L, Q v B.U.heap L ∧ B.locs = A.locs ++ L ∧ B.cells = A.cells + kc ∧ B.slots = A.slots + ks ∧ CHr Z EL vm0 h B.U.vm B.U.heap)
/-- behind a call that interned nothing -/
theorem Wk.after {kc ks : Nat} {T' : State} {L locs : List Loc} {vm0 : Vm} {k0 k1 n1 : Nat} {wc : List Addr} (X' : Stand p l e R (s.setVm vm0) m args below meth c T' (locs ++ L) (k1 + kc) (n1 + ks))
    (b : k1 ≤ k ∧ n1 ≤ n) (S : s.Since vm0 k0 ∧ k0 ≤ h.size) (hZ : Z.Warmed39 vm0) (ho : vm0.findClass own = some m.cls) (N : Fr n0 locs) (K : Keep h0 h ws) (O : Old Z n0 h) (f : ∀ x ∈ sf, n0 ≤ x ∧ (x ∈ ws ∨ h0.size ≤ x) ∧ x < h.size) (w1 : W = false → vm0 = s.vm) (w2 : W = true → EW Z a0 EL ∧ CHr Z EL s.vm h0 vm0 h ∧ ∀ x ∈ sf, Safe Z EL vm0 h x)
    (NL : Fr n0 L) (Kc : Keep h T'.heap wc) (hws : ∀ x ∈ wc, x ∈ sf) (xs : List Addr) (hxs : ∀ x ∈ xs, x ∈ sf ∨ h.size ≤ x ∧ x < T'.heap.size) :
    Wk W Z a0 EL n0 h0 ws own p l e R s m args below meth c (xs ++ sf) T' T'.heap (k + kc) (n + ks) := by
  refine ⟨vm0, _, k0, _, _, ⟨by omega, by omega⟩, X', rfl, ⟨S.1, Nat.le_trans S.2 Kc.1⟩, hZ, ho, Fr.app N NL, K.trans Kc fun x hx => (f x (hws x hx)).2.1, O.keep Kc fun x hx => (f x (hws x hx)).1, fun x hx => ?_, w1, fun ew => ?_⟩
  · have old : x ∈ sf → n0 ≤ x ∧ (x ∈ ws ∨ h0.size ≤ x) ∧ x < T'.heap.size := fun hx => ⟨(f x hx).1, (f x hx).2.1, Nat.lt_of_lt_of_le (f x hx).2.2 Kc.1⟩
    rcases List.mem_append.mp hx with hx | hx
    · rcases hxs x hx with hx | ⟨q1, q2⟩
      · exact old hx
      · exact ⟨Nat.le_trans (by rw [← O.1]; exact O.2.1) q1, Or.inr (Nat.le_trans K.1 q1), q2⟩
    · exact old hx
  · obtain ⟨v1, v2, v3⟩ := w2 ew
    refine ⟨v1, v2.trans (CHr.keep Kc (fun x hx => v3 x (hws x hx)) v2.1), fun x hx => ?_⟩
    have old : x ∈ sf → Safe Z EL vm0 T'.heap x := fun hx => Safe.keep Kc (fun x hx => v3 x (hws x hx)) v2.1 (v3 x hx)
    rcases List.mem_append.mp hx with hx | hx
    · rcases hxs x hx with hx | ⟨q1, q2⟩
      · exact old hx
      · exact Safe.keep Kc (fun x hx => v3 x (hws x hx)) v2.1 (Safe.new q1)
    · exact old hx
theorem Wk.callS (A : Wk W Z a0 EL n0 h0 ws own p l e R s m args below meth c sf T h k n) (hx : p.tables.exec = Jvm.exec) {index : Nat} {y : MethodName} {bytes : ByteArray} {maxL : Nat} {ret : Option FieldType} (wl : (Cond.methodLink own index y).before a0 Z = true) (wst : (Cond.static y).before a0 Z = true) (wz : (Cond.initialized y.cls).before a0 Z = true) (wc : (Cond.code y bytes maxL ret).before a0 Z = true) (hy : y.cls ≠ "java/lang/invoke/MethodHandle" ∧ y.cls ≠ "java/lang/invoke/VarHandle")
    {g : JFrame} (hg : g.method = m) (hsize : g.locals.size = c.maxLocals) (argsL rest : List Value) (hlen : ∀ sig, parseMethodDescriptor y.desc = some sig → argsL.length = sig.parameters.length) (hs : g.stack = argsL.reverse ++ rest) {Wd kc ks : Nat} (hW : 2 * g.monitorRoom + (rest.map fun v => v.category).sum ≤ Wd) (hd : decode c.code g.pc = .ok (.invokestatic index, 3)) (hk : k + kc ≤ R.cells) (hn : n + ks ≤ R.slots)
    {Q : Option Value → Heap → List Loc → Prop} (wc' : List Addr) (hQ : ∀ v h' L, Q v h' L → Fr n0 L ∧ Keep h h' wc') (hws : ∀ x ∈ wc', x ∈ sf) (pay : ∀ vm0, Z.Warmed39 (s.setVm vm0).vm → PayN l R p e below (s.setVm vm0) args y 3 Wd argsL.toArray h kc ks Q) :
    ∃ (v : Option Value) (T' : State) (h' : Heap), (∀ xs : List Addr, (∀ x ∈ xs, x ∈ sf ∨ h.size ≤ x ∧ x < h'.size) → Wk W Z a0 EL n0 h0 ws own p l e R s m args below meth c (xs ++ sf) T' h' (k + kc) (n + ks)) ∧ Keep h h' wc' ∧ (∃ L, Q v h' L) ∧
      ∀ t, Steps p.tables e below (T'.setTop { g with pc := g.pc + 3, stack := v.toList ++ rest }) t → Steps p.tables e below (T.setTop g) t := by
  obtain ⟨vm0, locs, k0, k1, n1, bb, X, eT, S, hZ, ho, Nf, K, O, f, w1, w2⟩ := A
  obtain ⟨v, _, ⟨T', L', c', s'⟩, -, X', ⟨L, hq, l1, l2, l3⟩, st⟩ := Jvm.LawKit.callS X hx ho (mvT (s := s.setVm vm0) hZ wl) (mvT (s := s.setVm vm0) hZ wst) (mvT (s := s.setVm vm0) hZ wz) (mvT (s := s.setVm vm0) hZ wc) hy (pay vm0 hZ) hg hsize (argsL := argsL) (rest := rest) hlen hs hW hd (fun _ _ => ⟨rfl, eT, by show k1 + kc ≤ _; omega, by show n1 + ks ≤ _; omega⟩)
  dsimp only [Pt.U, Pt.locs, Pt.cells, Pt.slots] at X' hq l1 l2 l3 st
  subst l1 l2 l3
  obtain ⟨q1, q2⟩ := hQ _ _ _ hq
  exact ⟨v, T', _, Wk.after X' bb S hZ ho Nf K O f w1 w2 q1 q2 hws, q2, ⟨L, hq⟩, st⟩
theorem Wk.callI (A : Wk W Z a0 EL n0 h0 ws own p l e R s m args below meth c sf T h k n) (hx : p.tables.exec = Jvm.exec) {index : Nat} {y : MethodName} {bytes : ByteArray} {maxL : Nat} (hy1 : y.name = "<init>") (wl : (Cond.methodLink own index y).before a0 Z = true) (wi : (Cond.instanceMethod y).before a0 Z = true) (wc : (Cond.code y bytes maxL none).before a0 Z = true) (hy : y.cls ≠ "java/lang/invoke/MethodHandle" ∧ y.cls ≠ "java/lang/invoke/VarHandle")
    {g : JFrame} (hg : g.method = m) (hsize : g.locals.size = c.maxLocals) (a : Addr) (argsL rest : List Value) (hlen : ∀ sig, parseMethodDescriptor y.desc = some sig → argsL.length = sig.parameters.length) (hs : g.stack = argsL.reverse ++ .ref a :: rest) {Wd kc ks : Nat} (hW : 2 * g.monitorRoom + (rest.map fun v => v.category).sum ≤ Wd) (hd : decode c.code g.pc = .ok (.invokespecial index, 3)) (hk : k + kc ≤ R.cells) (hn : n + ks ≤ R.slots)
    {Q : Option Value → Heap → List Loc → Prop} (wc' : List Addr) (hQ : ∀ v h' L, Q v h' L → Fr n0 L ∧ Keep h h' wc') (hws : ∀ x ∈ wc', x ∈ sf) (pay : ∀ vm0, Z.Warmed39 (s.setVm vm0).vm → PayN l R p e below (s.setVm vm0) args y 3 Wd (.ref a :: argsL).toArray h kc ks Q) :
    ∃ (v : Option Value) (T' : State) (h' : Heap), (∀ xs : List Addr, (∀ x ∈ xs, x ∈ sf ∨ h.size ≤ x ∧ x < h'.size) → Wk W Z a0 EL n0 h0 ws own p l e R s m args below meth c (xs ++ sf) T' h' (k + kc) (n + ks)) ∧ Keep h h' wc' ∧ (∃ L, Q v h' L) ∧
      ∀ t, Steps p.tables e below (T'.setTop { g with pc := g.pc + 3, stack := v.toList ++ rest }) t → Steps p.tables e below (T.setTop g) t := by
  obtain ⟨vm0, locs, k0, k1, n1, bb, X, eT, S, hZ, ho, Nf, K, O, f, w1, w2⟩ := A
  obtain ⟨v, _, ⟨T', L', c', s'⟩, -, X', ⟨L, hq, l1, l2, l3⟩, st⟩ := X.specialBack hx hy1 ho (mvT (s := s.setVm vm0) hZ wl) (mvT (s := s.setVm vm0) hZ wi) (mvT (s := s.setVm vm0) hZ wc) hy (pay vm0 hZ) hg hsize (Steps.refl _) (a := a) (argsL := argsL) (rest := rest) hlen hs hW hd (fun _ _ => ⟨rfl, eT, by show k1 + kc ≤ _; omega, by show n1 + ks ≤ _; omega⟩)
  dsimp only [Pt.U, Pt.locs, Pt.cells, Pt.slots] at X' hq l1 l2 l3 st
  subst l1 l2 l3
  obtain ⟨q1, q2⟩ := hQ _ _ _ hq
  exact ⟨v, T', _, Wk.after X' bb S hZ ho Nf K O f w1 w2 q1 q2 hws, q2, ⟨L, hq⟩, fun t q => st.trans q⟩
theorem Wk.callV (A : Wk W Z a0 EL n0 h0 ws own p l e R s m args below meth c sf T h k n) (hx : p.tables.exec = Jvm.exec) {C : String} {index : Nat} {y z : MethodName} (wl : (Cond.methodLink own index y).before a0 Z = true) (wd : (Cond.declares y).before a0 Z = true) (wse : (Cond.selects C y z).before a0 Z = true) (wi : (Cond.instanceMethod z).before a0 Z = true) (nf : ∀ s' : State, Z.Warmed39 s'.vm → NotFace s' y) (hy : y.cls ≠ "java/lang/invoke/MethodHandle" ∧ y.cls ≠ "java/lang/invoke/VarHandle")
    {b : Addr} (E : Exa Z h b C) {g : JFrame} (hg : g.method = m) (hsize : g.locals.size = c.maxLocals) (argsL rest : List Value) (hlen : ∀ sig, parseMethodDescriptor y.desc = some sig → argsL.length = sig.parameters.length) (hs : g.stack = argsL.reverse ++ .ref b :: rest) {Wd kc ks : Nat} (hW : 2 * g.monitorRoom + (rest.map fun v => v.category).sum ≤ Wd) (hd : decode c.code g.pc = .ok (.invokevirtual index, 3)) (hk : k + kc ≤ R.cells) (hn : n + ks ≤ R.slots)
    {Q : Option Value → Heap → List Loc → Prop} (wc' : List Addr) (hQ : ∀ v h' L, Q v h' L → Fr n0 L ∧ Keep h h' wc') (hws : ∀ x ∈ wc', x ∈ sf) (pay : ∀ vm0, Z.Warmed39 (s.setVm vm0).vm → PayN l R p e below (s.setVm vm0) args z 3 Wd (.ref b :: argsL).toArray h kc ks Q) :
    ∃ (v : Option Value) (T' : State) (h' : Heap), (∀ xs : List Addr, (∀ x ∈ xs, x ∈ sf ∨ h.size ≤ x ∧ x < h'.size) → Wk W Z a0 EL n0 h0 ws own p l e R s m args below meth c (xs ++ sf) T' h' (k + kc) (n + ks)) ∧ Keep h h' wc' ∧ (∃ L, Q v h' L) ∧
      ∀ t, Steps p.tables e below (T'.setTop { g with pc := g.pc + 3, stack := v.toList ++ rest }) t → Steps p.tables e below (T.setTop g) t := by
  obtain ⟨vm0, locs, k0, k1, n1, bb, X, eT, S, hZ, ho, Nf, K, O, f, w1, w2⟩ := A
  obtain ⟨cq, kq, qa, qb, qc⟩ := isOf (s := s.setVm vm0) hZ eT E
  obtain ⟨v, _, ⟨T', L', c', s'⟩, -, X', ⟨L, hq, l1, l2, l3⟩, st⟩ := X.virtualBack hx ho (mvT (s := s.setVm vm0) hZ wl) (mvT (s := s.setVm vm0) hZ wd) (nf (s.setVm vm0) hZ) (mvT (s := s.setVm vm0) hZ wse) (mvT (s := s.setVm vm0) hZ wi) hy (pay vm0 hZ) qa qc hg hsize (Steps.refl _) (argsL := argsL) (rest := rest) hlen hs hW hd (fun _ _ => ⟨rfl, eT, by show k1 + kc ≤ _; omega, by show n1 + ks ≤ _; omega⟩)
  dsimp only [Pt.U, Pt.locs, Pt.cells, Pt.slots] at X' hq l1 l2 l3 st
  subst l1 l2 l3
  obtain ⟨q1, q2⟩ := hQ _ _ _ hq
  exact ⟨v, T', _, Wk.after X' bb S hZ ho Nf K O f w1 w2 q1 q2 hws, q2, ⟨L, hq⟩, fun t q => st.trans q⟩
theorem Wk.callSup (A : Wk W Z a0 EL n0 h0 ws own p l e R s m args below meth c sf T h k n) (hx : p.tables.exec = Jvm.exec) {KK : String} {index : Nat} {y : MethodName} {bytes : ByteArray} {maxL : Nat} {ret : Option FieldType} (wl : (Cond.methodLink own index y).before a0 Z = true) (wsm : (Cond.sameMethod y.cls y.cls y.name y.desc).before a0 Z = true) (wi : (Cond.instanceMethod y).before a0 Z = true) (wsu : (Cond.superclass own y.cls).before a0 Z = true) (wc : (Cond.code y bytes maxL ret).before a0 Z = true) (hn1 : y.name ≠ "<init>")
    {g : JFrame} (hg : g.method = m) (hsize : g.locals.size = c.maxLocals) {a : Addr} (F : Ins Z h a KK true) (argsL rest : List Value) (hlen : ∀ sig, parseMethodDescriptor y.desc = some sig → argsL.length = sig.parameters.length) (hs : g.stack = argsL.reverse ++ .ref a :: rest) {Wd kc ks : Nat} (hW : 2 * g.monitorRoom + (rest.map fun v => v.category).sum ≤ Wd) (hd : decode c.code g.pc = .ok (.invokespecial index, 3)) (hk : k + kc ≤ R.cells) (hn : n + ks ≤ R.slots)
    {Q : Option Value → Heap → List Loc → Prop} (wc' : List Addr) (hQ : ∀ v h' L, Q v h' L → Fr n0 L ∧ Keep h h' wc') (hws : ∀ x ∈ wc', x ∈ sf) (pay : ∀ vm0, Z.Warmed39 (s.setVm vm0).vm → PayN l R p e below (s.setVm vm0) args y 3 Wd (.ref a :: argsL).toArray h kc ks Q) :
    ∃ (v : Option Value) (T' : State) (h' : Heap), (∀ xs : List Addr, (∀ x ∈ xs, x ∈ sf ∨ h.size ≤ x ∧ x < h'.size) → Wk W Z a0 EL n0 h0 ws own p l e R s m args below meth c (xs ++ sf) T' h' (k + kc) (n + ks)) ∧ Keep h h' wc' ∧ (∃ L, Q v h' L) ∧
      ∀ t, Steps p.tables e below (T'.setTop { g with pc := g.pc + 3, stack := v.toList ++ rest }) t → Steps p.tables e below (T.setTop g) t := by
  obtain ⟨vm0, locs, k0, k1, n1, bb, X, eT, S, hZ, ho, Nf, K, O, f, w1, w2⟩ := A
  obtain ⟨v, _, ⟨T', L', c', s'⟩, -, X', ⟨L, hq, l1, l2, l3⟩, st⟩ := RoadKit.superBack X hx hZ ho wl wsm wi wsu hn1 (pay vm0 hZ) eT F hg hsize wc (argsL := argsL) (rest := rest) hlen hs hW hd (fun _ _ => ⟨rfl, eT, by show k1 + kc ≤ _; omega, by show n1 + ks ≤ _; omega⟩)
  dsimp only [Pt.U, Pt.locs, Pt.cells, Pt.slots] at X' hq l1 l2 l3 st
  subst l1 l2 l3
  obtain ⟨q1, q2⟩ := hQ _ _ _ hq
  exact ⟨v, T', _, Wk.after X' bb S hZ ho Nf K O f w1 w2 q1 q2 hws, q2, ⟨L, hq⟩, fun t q => st.trans q⟩
theorem Wk.copy (A : Wk W Z a0 EL n0 h0 ws own p l e R s m args below meth c sf T h k n) (hx : p.tables.exec = Jvm.exec) {index : Nat} (wl : (Cond.methodLink own index Jvm.Stand.acN).before a0 Z = true) (wn : (Cond.native Jvm.Stand.acN).before a0 Z = true) (wst : (Cond.static Jvm.Stand.acN).before a0 Z = true) (wz : (Cond.initialized "java/lang/System").before a0 Z = true)
    {a b : Addr} {ka kb : ClassId} {ty : FieldType} {z z' sp dp nn : Int32} {vs vd us : List Value} {dv dd : Value} (Va : Arv Z h a ka ty z vs dv) (Vb : Arv Z h b kb ty z' vd dd) (hty : refKind ty = false) (h1 : ¬ sp < 0) (h2 : ¬ dp < 0) (h3 : ¬ nn < 0) (h4 : sp.toNatClampNeg + nn.toNatClampNeg ≤ z.toNatClampNeg) (h5 : dp.toNatClampNeg + nn.toNatClampNeg ≤ z'.toNatClampNeg)
    (hus : us = (List.range nn.toNatClampNeg).map fun i => vs.getD (sp.toNatClampNeg + i) dv) (hl : dp.toNatClampNeg + nn.toNatClampNeg ≤ vd.length) (hb : b ∈ sf)
    {g : JFrame} (hg : g.method = m) (hsize : g.locals.size = c.maxLocals) {rest : List Value} (hs : g.stack = .int nn :: .int dp :: .ref b :: .int sp :: .ref a :: rest) (hd : decode c.code g.pc = .ok (.invokestatic index, 3))
    (hf : 1 ≤ R.frames) {Wd : Nat} (hW : 2 * g.monitorRoom + (rest.map fun v => v.category).sum ≤ Wd) (hlo : Wd + (nativeFrameWords "java/lang/System" "arraycopy" 5 + 11) ≤ R.locals) :
    ∃ (T' : State) (h' : Heap), Wk W Z a0 EL n0 h0 ws own p l e R s m args below meth c sf T' h' k n ∧ Keep h h' [b] ∧ Arv Z h' b kb ty z' (vd.take dp.toNatClampNeg ++ us ++ vd.drop (dp.toNatClampNeg + nn.toNatClampNeg)) dd ∧
      ∀ t, Steps p.tables e below (T'.setTop { g with pc := g.pc + 3, stack := rest }) t → Steps p.tables e below (T.setTop g) t := by
  obtain ⟨vm0, locs, k0, k1, n1, bb, X, eT, S, hZ, ho, Nf, K, O, f, w1, w2⟩ := A
  obtain ⟨T', h', L, X', e', N', Kc, V', st⟩ := RoadKit.cpA X hx hZ ho wl wn wst wz eT Va Vb (Or.inl ⟨rfl, hty⟩) h1 h2 h3 h4 h5 hus hl Nf (f b hb).1 hg hsize hs hd hf hW hlo
  have hws : ∀ x ∈ [b], x ∈ sf := allS hb all0
  refine ⟨T', h', ⟨vm0, L, k0, k1, n1, bb, X', e', ⟨S.1, Nat.le_trans S.2 Kc.1⟩, hZ, ho, N', K.trans Kc fun x hx => (f x (hws x hx)).2.1, O.keep Kc fun x hx => (f x (hws x hx)).1, fun x hx => ⟨(f x hx).1, (f x hx).2.1, Nat.lt_of_lt_of_le (f x hx).2.2 Kc.1⟩, w1, fun ew => ?_⟩, Kc, V', st⟩
  obtain ⟨v1, v2, v3⟩ := w2 ew
  exact ⟨v1, v2.trans (CHr.keep Kc (fun x hx => v3 x (hws x hx)) v2.1), fun x hx => Safe.keep Kc (fun x hx => v3 x (hws x hx)) v2.1 (v3 x hx)⟩
/-! contracts -/
abbrev EndN (s : State) (h0 : Heap) (ws : List Addr) (n0 : Nat) (rm : Room) (Q : Option Value → Heap → Prop) (o : Outcome) (u : State) : Prop :=
  ∃ v L, o = .returned v ∧ (Q v u.heap ∧ Fr n0 L ∧ Keep h0 u.heap ws) ∧ FrameEnd s o u L rm.cells rm.slots
abbrev CtrN (l : Launch) (Z : State) (y : MethodName) (bytes : ByteArray) (maxL : Nat) (ret : Option FieldType) (tb : List Cond) (rm : Room) (as : Array Value) (h0 : Heap) (ws : List Addr) (n0 : Nat) (Q : Option Value → Heap → Prop) : Prop :=
  MetFree l y (head1 (Cond.code y bytes maxL ret :: tb) rm) (fun a U => a = as ∧ Z.Warmed39 U.vm ∧ U.heap = h0) (fun _ _ _ _ _ => True) (fun _ U o U' => ∃ v L, o = .returned v ∧ (Q v U'.heap ∧ Fr n0 L ∧ Keep h0 U'.heap ws) ∧ FrameEnd U o U' L rm.cells rm.slots)
theorem enterN {y : MethodName} {bytes : ByteArray} {maxL : Nat} {ret : Option FieldType} {tb : List Cond} {rm : Room} {as : Array Value} {Q : Option Value → Heap → Prop} (hp : plainFor y = true) (hO : Old Z n0 h0) (hsf : ∀ x ∈ ws, n0 ≤ x ∧ x < h0.size)
    (body : ∀ (p : Program) (e : Env) (s : State) (m : MethodId) (below : List Frame) (meth : Method) (c : Code) (T : State), p.tables.exec = Jvm.exec → c.code = bytes → c.maxLocals = maxL → meth.sig.returnType = ret → meth.name = y.name → meth.locks = false →
      Wk false Z a0 [] n0 h0 ws y.cls p l e rm s m as below meth c ws T h0 0 0 → Run p.tables e below (EndN s h0 ws n0 rm Q) (T.setTop (entryFrame m as maxL))) : CtrN l Z y bytes maxL ret tb rm as h0 ws n0 Q := by
  refine MetFree.of_bodySF hp hisR ?_
  intro p e s m args below meth c s₁ Bd hml0 hP hK
  obtain ⟨rfl, hZ, hh⟩ := hP
  have X0 := Stand.of_body Bd
  have e0 : s₁.heap = h0 := by rw [← hh, Bd.state]; rfl
  exact body p e s m below meth c s₁ Bd.exec Bd.bytes hml0 Bd.returns (name_of_methodNamed Bd.named Bd.method).1 Bd.notSynchronized ⟨s.vm, [], 0, 0, 0, ⟨Nat.le_refl _, Nat.le_refl _⟩, X0, e0, ⟨(State.WarmedH.refl s).since 0, Nat.zero_le _⟩, hZ, findClass_of_methodNamed Bd.named, Fr.nil _, Keep.refl _ _, hO, fun x hx => ⟨(hsf x hx).1, Or.inl hx, (hsf x hx).2⟩, fun _ => rfl, fun q => by cases q⟩
theorem Wk.leaveN (A : Wk false Z a0 EL n0 h0 ws own p l e R s m args below meth c sf T h k n) (hlk : meth.locks = false) {rm : Room} {Q : Option Value → Heap → Prop} {g : JFrame} (v : Option Value) (hv : meth.sig.returnType = none → v = none) (hk : k ≤ rm.cells) (hn : n ≤ rm.slots) (hq : Q v h)
    (hret : ∀ {s' : State} {locs : List Loc} {k' n' : Nat} {fs : List Frame}, Stand p l e R s' m args below meth c T locs k' n' → (∀ (f : JFrame) (acts : List Action), f.method = m → f.locked = none → f.entered = [] → (doReturn e (T.setTop f) acts v).1 = T.setFrames fs) → Steps p.tables e below (T.setTop g) (T.setFrames fs)) :
    Run p.tables e below (EndN s h0 ws n0 rm Q) (T.setTop g) := by
  obtain ⟨vm0, locs, k0, k1, n1, ⟨b1, b2⟩, X, eT, S, hZ, ho, Nf, K, O, f, w1, w2⟩ := A
  cases w1 rfl
  obtain ⟨fs, hr, hrun, hended, hW, hsame⟩ := X.leave (v := v) hv hlk
  refine ⟨_, _, hret X hr, hrun, hended, _, _, rfl, ⟨?_, Nf, ?_⟩, ⟨_, rfl⟩, hW, hsame.mono (by omega) (by omega)⟩
  · show Q v T.heap; rw [eT]; exact hq
  · show Keep h0 T.heap ws; rw [eT]; exact K
theorem payN {y : MethodName} {bytes : ByteArray} {maxL : Nat} {ret : Option FieldType} {rm : Room} {as : Array Value} {Q : Option Value → Heap → Prop} {len Wd : Nat} (M : CtrN l Z y bytes maxL ret [] rm as h ws n0 Q) (wc : (Cond.code y bytes maxL ret).before a0 Z = true) (wz : (Cond.initialized y.cls).before a0 Z = true) (hf : rm.frames + 1 ≤ R.frames) (hl : Wd + (maxL + 11) + rm.locals ≤ R.locals) {vm0 : Vm} (hZ : Z.Warmed39 (s.setVm vm0).vm) :
    PayN l R p e below (s.setVm vm0) args y len Wd as h rm.cells rm.slots (fun v h' L => Q v h' ∧ Fr n0 L ∧ Keep h h' ws) := backOf (Q := fun v h' L => Q v h' ∧ Fr n0 L ∧ Keep h h' ws) M hZ wc wz hf hl
/-! contracts of bodies that may intern -/
abbrev EndW (Z : State) (EL : List (String × Nat)) (s : State) (h0 : Heap) (ws : List Addr) (n0 : Nat) (rm : Room) (Q : Option Value → Heap → Prop) (o : Outcome) (u : State) : Prop :=
  ∃ v L, o = .returned v ∧ (Q v u.heap ∧ Fr n0 L ∧ Keep h0 u.heap ws) ∧ CHr Z EL s.vm s.heap u.vm u.heap ∧ ReturnedEndW s o u L rm.cells rm.slots
abbrev CtrW (l : Launch) (Z : State) (EL : List (String × Nat)) (y : MethodName) (bytes : ByteArray) (maxL : Nat) (ret : Option FieldType) (tb : List Cond) (rm : Room) (as : Array Value) (h0 : Heap) (ws : List Addr) (n0 : Nat) (Q : Option Value → Heap → Prop) : Prop :=
  MetFree l y (head1 (Cond.code y bytes maxL ret :: tb) rm) (fun a U => a = as ∧ Z.Warmed39 U.vm ∧ U.heap = h0 ∧ CHv Z EL U.vm h0 ∧ ∀ x ∈ ws, Safe Z EL U.vm h0 x) (fun _ _ _ _ _ => True) (fun _ U o U' => ∃ v L, o = .returned v ∧ (Q v U'.heap ∧ Fr n0 L ∧ Keep h0 U'.heap ws) ∧ CHr Z EL U.vm U.heap U'.vm U'.heap ∧ ReturnedEndW U o U' L rm.cells rm.slots)
theorem enterW {y : MethodName} {bytes : ByteArray} {maxL : Nat} {ret : Option FieldType} {tb : List Cond} {rm : Room} {as : Array Value} {Q : Option Value → Heap → Prop} (hp : plainFor y = true) (hEL : EW Z a0 EL) (hO : Old Z n0 h0) (hsf : ∀ x ∈ ws, n0 ≤ x ∧ x < h0.size)
    (body : ∀ (p : Program) (e : Env) (s : State) (m : MethodId) (below : List Frame) (meth : Method) (c : Code) (T : State), p.tables.exec = Jvm.exec → c.code = bytes → c.maxLocals = maxL → meth.sig.returnType = ret → meth.name = y.name → meth.locks = false → s.heap = h0 →
      Wk true Z a0 EL n0 h0 ws y.cls p l e rm s m as below meth c ws T h0 0 0 → Run p.tables e below (EndW Z EL s h0 ws n0 rm Q) (T.setTop (entryFrame m as maxL))) : CtrW l Z EL y bytes maxL ret tb rm as h0 ws n0 Q := by
  refine MetFree.of_bodySF hp hisR ?_
  intro p e s m args below meth c s₁ Bd hml0 hP hK
  obtain ⟨rfl, hZ, hh, hC, hSf⟩ := hP
  have X0 := Stand.of_body Bd
  have e0 : s₁.heap = h0 := by rw [← hh, Bd.state]; rfl
  exact body p e s m below meth c s₁ Bd.exec Bd.bytes hml0 Bd.returns (name_of_methodNamed Bd.named Bd.method).1 Bd.notSynchronized hh ⟨s.vm, [], 0, 0, 0, ⟨Nat.le_refl _, Nat.le_refl _⟩, X0, e0, ⟨(State.WarmedH.refl s).since 0, Nat.zero_le _⟩, hZ, findClass_of_methodNamed Bd.named, Fr.nil _, Keep.refl _ _, hO, fun x hx => ⟨(hsf x hx).1, Or.inl hx, (hsf x hx).2⟩, fun _ => rfl, fun _ => ⟨hEL, CHr.refl hC, hSf⟩⟩
theorem Wk.leaveW (A : Wk true Z a0 EL n0 h0 ws own p l e R s m args below meth c sf T h k n) (hlk : meth.locks = false) (hh : s.heap = h0) {rm : Room} {Q : Option Value → Heap → Prop} {g : JFrame} (v : Option Value) (hv : meth.sig.returnType = none → v = none) (hk : k ≤ rm.cells) (hn : n ≤ rm.slots) (hq : Q v h)
    (hret : ∀ {s' : State} {locs : List Loc} {k' n' : Nat} {fs : List Frame}, Stand p l e R s' m args below meth c T locs k' n' → (∀ (f : JFrame) (acts : List Action), f.method = m → f.locked = none → f.entered = [] → (doReturn e (T.setTop f) acts v).1 = T.setFrames fs) → Steps p.tables e below (T.setTop g) (T.setFrames fs)) :
    Run p.tables e below (EndW Z EL s h0 ws n0 rm Q) (T.setTop g) := by
  obtain ⟨vm0, locs, k0, k1, n1, ⟨b1, b2⟩, X, eT, ⟨S, S0⟩, hZ, ho, Nf, K, O, f, w1, w2⟩ := A
  obtain ⟨v1, v2, v3⟩ := w2 rfl
  obtain ⟨fs, hr, hrun, hended, r1, r2, r3, r4⟩ := X.leaveW S (by rw [eT]; exact S0) (v := v) hv hlk
  refine ⟨_, _, hret X hr, hrun, hended, _, _, rfl, ⟨?_, Nf, ?_⟩, ?_, r1, r2, r3, r4.mono (by omega) (by omega)⟩
  · show Q v T.heap; rw [eT]; exact hq
  · show Keep h0 T.heap ws; rw [eT]; exact K
  · show CHr Z EL s.vm s.heap T.vm T.heap
    rw [eT, hh]; exact v2.trans (CHv.at X hZ v1 v2.1)
theorem payW {y : MethodName} {bytes : ByteArray} {maxL : Nat} {ret : Option FieldType} {rm : Room} {as : Array Value} {Q : Option Value → Heap → Prop} {len Wd : Nat} (M : CtrW l Z EL y bytes maxL ret [] rm as h ws n0 Q) (wc : (Cond.code y bytes maxL ret).before a0 Z = true) (wz : (Cond.initialized y.cls).before a0 Z = true) (hf : rm.frames + 1 ≤ R.frames) (hl : Wd + (maxL + 11) + rm.locals ≤ R.locals) {vm0 : Vm} (hZ : Z.Warmed39 vm0) (hEL : EW Z a0 EL) (H : CHv Z EL vm0 h) (hsf : ∀ x ∈ ws, x < h.size ∧ Safe Z EL vm0 h x) :
    PayW Z EL l R p e below s vm0 args y len Wd as h rm.cells rm.slots (fun v h' L => Q v h' ∧ Fr n0 L ∧ Keep h h' ws) :=
  BackS.of_freeW (bytes := bytes) (maxL := maxL) (ret := ret) (E := fun _ first o t L k n => k = rm.cells ∧ n = rm.slots ∧ (∃ v, o = .returned v ∧ (Q v t.heap ∧ Fr n0 L ∧ Keep h t.heap ws)) ∧ CHr Z EL first.vm first.heap t.vm t.heap) M hf hl
    (fun m meth c A a Y hp => have hU : Z.Warmed39 A.U.vm := wtrans (s := s.setVm vm0) hZ Y.warmed
      ⟨by show (Cond.and _ .tt).before a A.U = true; rw [Cond.before_and, mv hU wc]; rfl, mv hU wc, mv hU wz, hp.2.2.1, hp.2.2.2⟩)
    (fun m meth c A a g mk Y hp => ⟨hp.1, wtrans (s := s.setVm vm0) hZ Y.warmed, hp.2.1, (CHv.at Y hZ hEL H).1, fun x hx => (CHv.at Y hZ hEL H).safe (hsf x hx).1 (hsf x hx).2⟩) (fun _ _ _ _ _ _ _ _ _ => trivial)
    (fun _ _ _ _ ⟨v, L, q1, q2, q3, q4⟩ => ⟨L, _, _, q4, rfl, rfl, ⟨v, q1, q2⟩, q3⟩)
    (fun m meth c A a g mk v t L k n Y hp _ _ ⟨e1, e2, ⟨v', e3, e4⟩, e5⟩ => by
      cases e3; subst e1 e2
      refine ⟨L, e4, rfl, rfl, rfl, (CHv.at Y hZ hEL H).trans ?_⟩
      rw [← hp.2.1]; exact e5)
/-- behind a call that may have interned -/
theorem Wk.afterW {kc ks : Nat} {T' : State} {L locs : List Loc} {vm0 : Vm} {k0 k1 n1 : Nat} {wc : List Addr} (eT : T.heap = h) (X' : Stand p l e R ((s.setVm vm0).setVm T'.vm) m args below meth c T' (locs ++ L) (k1 + kc) (n1 + ks)) (S2 : (s.setVm vm0).Since T'.vm T'.heap.size) (gr : T.heap.size ≤ T'.heap.size) (C2 : CHr Z EL vm0 h T'.vm T'.heap)
    (b : k1 ≤ k ∧ n1 ≤ n) (S : s.Since vm0 k0 ∧ k0 ≤ h.size) (hZ : Z.Warmed39 vm0) (ho : vm0.findClass own = some m.cls) (N : Fr n0 locs) (K : Keep h0 h ws) (O : Old Z n0 h) (f : ∀ x ∈ sf, n0 ≤ x ∧ (x ∈ ws ∨ h0.size ≤ x) ∧ x < h.size) (w2 : EW Z a0 EL ∧ CHr Z EL s.vm h0 vm0 h ∧ ∀ x ∈ sf, Safe Z EL vm0 h x)
    (NL : Fr n0 L) (Kc : Keep h T'.heap wc) (hws : ∀ x ∈ wc, x ∈ sf) :
    Wk true Z a0 EL n0 h0 ws own p l e R s m args below meth c sf T' T'.heap (k + kc) (n + ks) := by
  obtain ⟨v1, v2, v3⟩ := w2
  obtain ⟨X1, S1, hZ1, ho1⟩ := rebS S.1 S.2 X' S2 (by rw [← eT]; exact gr) hZ ho
  refine ⟨T'.vm, _, _, _, _, ⟨by omega, by omega⟩, X1, rfl, ⟨S1, Nat.le_refl _⟩, hZ1, ho1, Fr.app N NL, K.trans Kc fun x hx => (f x (hws x hx)).2.1, O.keep Kc fun x hx => (f x (hws x hx)).1, fun x hx => ⟨(f x hx).1, (f x hx).2.1, Nat.lt_of_lt_of_le (f x hx).2.2 Kc.1⟩, (fun q => by cases q), fun _ => ⟨v1, v2.trans C2, fun x hx => C2.safe (f x hx).2.2 (v3 x hx)⟩⟩
theorem Wk.callSW (A : Wk true Z a0 EL n0 h0 ws own p l e R s m args below meth c sf T h k n) (hx : p.tables.exec = Jvm.exec) {index : Nat} {y : MethodName} {bytes : ByteArray} {maxL : Nat} {ret : Option FieldType} (wl : (Cond.methodLink own index y).before a0 Z = true) (wst : (Cond.static y).before a0 Z = true) (wz : (Cond.initialized y.cls).before a0 Z = true) (wc : (Cond.code y bytes maxL ret).before a0 Z = true) (hy : y.cls ≠ "java/lang/invoke/MethodHandle" ∧ y.cls ≠ "java/lang/invoke/VarHandle")
    {g : JFrame} (hg : g.method = m) (hsize : g.locals.size = c.maxLocals) (argsL rest : List Value) (hlen : ∀ sig, parseMethodDescriptor y.desc = some sig → argsL.length = sig.parameters.length) (hs : g.stack = argsL.reverse ++ rest) {Wd kc ks : Nat} (hW : 2 * g.monitorRoom + (rest.map fun v => v.category).sum ≤ Wd) (hd : decode c.code g.pc = .ok (.invokestatic index, 3)) (hk : k + kc ≤ R.cells) (hn : n + ks ≤ R.slots)
    {Q : Option Value → Heap → List Loc → Prop} (wc' : List Addr) (hQ : ∀ v h' L, Q v h' L → Fr n0 L ∧ Keep h h' wc') (hws : ∀ x ∈ wc', x ∈ sf) (pay : ∀ vm0, Z.Warmed39 vm0 → EW Z a0 EL → CHv Z EL vm0 h → (∀ x ∈ wc', x < h.size ∧ Safe Z EL vm0 h x) → PayW Z EL l R p e below s vm0 args y 3 Wd argsL.toArray h kc ks Q) :
    ∃ (v : Option Value) (T' : State) (h' : Heap), Wk true Z a0 EL n0 h0 ws own p l e R s m args below meth c sf T' h' (k + kc) (n + ks) ∧ Keep h h' wc' ∧ (∃ L, Q v h' L) ∧
      ∀ t, Steps p.tables e below (T'.setTop { g with pc := g.pc + 3, stack := v.toList ++ rest }) t → Steps p.tables e below (T.setTop g) t := by
  obtain ⟨vm0, locs, k0, k1, n1, bb, X, eT, S, hZ, ho, Nf, K, O, f, w1, w2⟩ := A
  obtain ⟨v, _, ⟨T', L', c', s'⟩, -, X', S2, gr, ⟨L, hq, l1, l2, l3, C2⟩, st⟩ := RoadKit.callSS X hx ho (mvT (s := s.setVm vm0) hZ wl) (mvT (s := s.setVm vm0) hZ wst) (mvT (s := s.setVm vm0) hZ wz) (mvT (s := s.setVm vm0) hZ wc) hy (pay vm0 hZ (w2 rfl).1 (w2 rfl).2.1.1 fun x hx => ⟨(f x (hws x hx)).2.2, (w2 rfl).2.2 x (hws x hx)⟩) hg hsize (argsL := argsL) (rest := rest) hlen hs hW hd (fun _ _ => ⟨rfl, eT, by show k1 + kc ≤ _; omega, by show n1 + ks ≤ _; omega⟩)
  dsimp only [Pt.U, Pt.locs, Pt.cells, Pt.slots] at X' hq l1 l2 l3 st S2 gr C2
  subst l1 l2 l3
  obtain ⟨q1, q2⟩ := hQ _ _ _ hq
  exact ⟨v, T', _, Wk.afterW eT X' S2 gr C2 bb S hZ ho Nf K O f (w2 rfl) q1 q2 hws, q2, ⟨L, hq⟩, fun t q => st.trans q⟩
theorem Wk.callIW (A : Wk true Z a0 EL n0 h0 ws own p l e R s m args below meth c sf T h k n) (hx : p.tables.exec = Jvm.exec) {index : Nat} {y : MethodName} {bytes : ByteArray} {maxL : Nat} (hy1 : y.name = "<init>") (wl : (Cond.methodLink own index y).before a0 Z = true) (wi : (Cond.instanceMethod y).before a0 Z = true) (wc : (Cond.code y bytes maxL none).before a0 Z = true) (hy : y.cls ≠ "java/lang/invoke/MethodHandle" ∧ y.cls ≠ "java/lang/invoke/VarHandle")
    {g : JFrame} (hg : g.method = m) (hsize : g.locals.size = c.maxLocals) (a : Addr) (argsL rest : List Value) (hlen : ∀ sig, parseMethodDescriptor y.desc = some sig → argsL.length = sig.parameters.length) (hs : g.stack = argsL.reverse ++ .ref a :: rest) {Wd kc ks : Nat} (hW : 2 * g.monitorRoom + (rest.map fun v => v.category).sum ≤ Wd) (hd : decode c.code g.pc = .ok (.invokespecial index, 3)) (hk : k + kc ≤ R.cells) (hn : n + ks ≤ R.slots)
    {Q : Option Value → Heap → List Loc → Prop} (wc' : List Addr) (hQ : ∀ v h' L, Q v h' L → Fr n0 L ∧ Keep h h' wc') (hws : ∀ x ∈ wc', x ∈ sf) (pay : ∀ vm0, Z.Warmed39 vm0 → EW Z a0 EL → CHv Z EL vm0 h → (∀ x ∈ wc', x < h.size ∧ Safe Z EL vm0 h x) → PayW Z EL l R p e below s vm0 args y 3 Wd (.ref a :: argsL).toArray h kc ks Q) :
    ∃ (v : Option Value) (T' : State) (h' : Heap), Wk true Z a0 EL n0 h0 ws own p l e R s m args below meth c sf T' h' (k + kc) (n + ks) ∧ Keep h h' wc' ∧ (∃ L, Q v h' L) ∧
      ∀ t, Steps p.tables e below (T'.setTop { g with pc := g.pc + 3, stack := v.toList ++ rest }) t → Steps p.tables e below (T.setTop g) t := by
  obtain ⟨vm0, locs, k0, k1, n1, bb, X, eT, S, hZ, ho, Nf, K, O, f, w1, w2⟩ := A
  obtain ⟨v, _, ⟨T', L', c', s'⟩, -, X', S2, gr, ⟨L, hq, l1, l2, l3, C2⟩, st⟩ := X.specialBackS hx hy1 ho (mvT (s := s.setVm vm0) hZ wl) (mvT (s := s.setVm vm0) hZ wi) (mvT (s := s.setVm vm0) hZ wc) hy (pay vm0 hZ (w2 rfl).1 (w2 rfl).2.1.1 fun x hx => ⟨(f x (hws x hx)).2.2, (w2 rfl).2.2 x (hws x hx)⟩) hg hsize (Steps.refl _) (a := a) (argsL := argsL) (rest := rest) hlen hs hW hd (fun _ _ => ⟨rfl, eT, by show k1 + kc ≤ _; omega, by show n1 + ks ≤ _; omega⟩)
  dsimp only [Pt.U, Pt.locs, Pt.cells, Pt.slots] at X' hq l1 l2 l3 st S2 gr C2
  subst l1 l2 l3
  obtain ⟨q1, q2⟩ := hQ _ _ _ hq
  exact ⟨v, T', _, Wk.afterW eT X' S2 gr C2 bb S hZ ho Nf K O f (w2 rfl) q1 q2 hws, q2, ⟨L, hq⟩, fun t q => st.trans q⟩
theorem Wk.callVW (A : Wk true Z a0 EL n0 h0 ws own p l e R s m args below meth c sf T h k n) (hx : p.tables.exec = Jvm.exec) {C : String} {index : Nat} {y z : MethodName} (wl : (Cond.methodLink own index y).before a0 Z = true) (wd : (Cond.declares y).before a0 Z = true) (wse : (Cond.selects C y z).before a0 Z = true) (wi : (Cond.instanceMethod z).before a0 Z = true) (nf : ∀ s' : State, Z.Warmed39 s'.vm → NotFace s' y) (hy : y.cls ≠ "java/lang/invoke/MethodHandle" ∧ y.cls ≠ "java/lang/invoke/VarHandle")
    {b : Addr} (E : Exa Z h b C) {g : JFrame} (hg : g.method = m) (hsize : g.locals.size = c.maxLocals) (argsL rest : List Value) (hlen : ∀ sig, parseMethodDescriptor y.desc = some sig → argsL.length = sig.parameters.length) (hs : g.stack = argsL.reverse ++ .ref b :: rest) {Wd kc ks : Nat} (hW : 2 * g.monitorRoom + (rest.map fun v => v.category).sum ≤ Wd) (hd : decode c.code g.pc = .ok (.invokevirtual index, 3)) (hk : k + kc ≤ R.cells) (hn : n + ks ≤ R.slots)
    {Q : Option Value → Heap → List Loc → Prop} (wc' : List Addr) (hQ : ∀ v h' L, Q v h' L → Fr n0 L ∧ Keep h h' wc') (hws : ∀ x ∈ wc', x ∈ sf) (pay : ∀ vm0, Z.Warmed39 vm0 → EW Z a0 EL → CHv Z EL vm0 h → (∀ x ∈ wc', x < h.size ∧ Safe Z EL vm0 h x) → PayW Z EL l R p e below s vm0 args z 3 Wd (.ref b :: argsL).toArray h kc ks Q) :
    ∃ (v : Option Value) (T' : State) (h' : Heap), Wk true Z a0 EL n0 h0 ws own p l e R s m args below meth c sf T' h' (k + kc) (n + ks) ∧ Keep h h' wc' ∧ (∃ L, Q v h' L) ∧
      ∀ t, Steps p.tables e below (T'.setTop { g with pc := g.pc + 3, stack := v.toList ++ rest }) t → Steps p.tables e below (T.setTop g) t := by
  obtain ⟨vm0, locs, k0, k1, n1, bb, X, eT, S, hZ, ho, Nf, K, O, f, w1, w2⟩ := A
  obtain ⟨cq, kq, qa, qb, qc⟩ := isOf (s := s.setVm vm0) hZ eT E
  obtain ⟨v, _, ⟨T', L', c', s'⟩, -, X', S2, gr, ⟨L, hq, l1, l2, l3, C2⟩, st⟩ := X.virtualBackS hx ho (mvT (s := s.setVm vm0) hZ wl) (mvT (s := s.setVm vm0) hZ wd) (nf (s.setVm vm0) hZ) (mvT (s := s.setVm vm0) hZ wse) (mvT (s := s.setVm vm0) hZ wi) hy (pay vm0 hZ (w2 rfl).1 (w2 rfl).2.1.1 fun x hx => ⟨(f x (hws x hx)).2.2, (w2 rfl).2.2 x (hws x hx)⟩) qa qc hg hsize (Steps.refl _) (argsL := argsL) (rest := rest) hlen hs hW hd (fun _ _ => ⟨rfl, eT, by show k1 + kc ≤ _; omega, by show n1 + ks ≤ _; omega⟩)
  dsimp only [Pt.U, Pt.locs, Pt.cells, Pt.slots] at X' hq l1 l2 l3 st S2 gr C2
  subst l1 l2 l3
  obtain ⟨q1, q2⟩ := hQ _ _ _ hq
  exact ⟨v, T', _, Wk.afterW eT X' S2 gr C2 bb S hZ ho Nf K O f (w2 rfl) q1 q2 hws, q2, ⟨L, hq⟩, fun t q => st.trans q⟩
theorem Wk.ldc (A : Wk true Z a0 EL n0 h0 ws own p l e R s m args below meth c sf T h k n) (hx : p.tables.exec = Jvm.exec) {text : String} {index : Nat} (w : (Cond.stringLink own index text).before a0 Z = true) (wS : ∀ a ∈ Bundle.stringAtoms, a.before a0 Z = true) (hmem : (own, index) ∈ EL) {vs : List Value} {z : Int32} (ht : (∀ c ∈ text.toList, c.toNat < 256) ∧ text.toList.map (fun c => Value.int (Jvm.Lit.byteI c.toNat.toUInt16)) = vs) (hz : ¬ z < 0) (hl : z.toNatClampNeg = vs.length)
    {g : JFrame} (hg : g.method = m) (hd : decode c.code g.pc = .ok (.ldc index, 2)) {q : Nat} (hn : 4 * text.toList.length ≤ q) (hbig : q ≤ 536870912) (hc : k + 2 ≤ R.cells) (hl' : n + (q + 4) ≤ R.slots) :
    ∃ (a b : Addr) (kb : ClassId) (T' : State) (h' : Heap), Wk true Z a0 EL n0 h0 ws own p l e R s m args below meth c sf T' h' (k + 2) (n + (q + 4)) ∧ Ext h h' ∧ Exa Z h' a "java/lang/String" ∧ Fld Z h' a "java/lang/String" "coder" "B" (.int 0) ∧ Fld Z h' a "java/lang/String" "value" "[B" (.ref b) ∧ Arv Z h' b kb .byte z vs (.int 0) ∧ (∀ x ∈ sf, x ≠ a ∧ x ≠ b) ∧
      ∀ t, Steps p.tables e below (T'.setTop { g with pc := g.pc + 2, stack := .ref a :: g.stack }) t → Steps p.tables e below (T.setTop g) t := by
  obtain ⟨vm0, locs, k0, k1, n1, ⟨b1, b2⟩, X, eT, S, hZ, ho, Nf, K, O, f, w1, w2⟩ := A
  obtain ⟨v1, v2, v3⟩ := w2 rfl
  obtain ⟨a, T', h', k2, b, kb, X', e', E, S', hk', hZ', ho', E1, E2, E3, E4, -, -, C2, -, ne, st⟩ := RoadKit.ldcCH X hx hZ ho w wS eT S.1 S.2 v1 hmem v2.1 ht hz hl hg hd hn hbig (by omega) (by omega)
  refine ⟨a, b, kb, T', h', ⟨T'.vm, locs, k2, _, _, ⟨by omega, by omega⟩, X', e', ⟨S', hk'⟩, hZ', ho', Nf, K.ext E, O.ext E, fun x hx => ⟨(f x hx).1, (f x hx).2.1, Nat.lt_of_lt_of_le (f x hx).2.2 E.1⟩, (fun q => by cases q), fun _ => ⟨v1, v2.trans C2, fun x hx => C2.safe (f x hx).2.2 (v3 x hx)⟩⟩, E, E1, E2, E3, E4, fun x hx => ne x (C2.safe (f x hx).2.2 (v3 x hx)), st⟩
end Kit
end Jvm.OwnKit
/- laws to paste: Road.backV, Road.eqW, Road.codOf (cut by pick.py; bodies as the Statement names them) -/
namespace Jvm.Pilot.@@N@@
namespace StrChars
open Jvm Sem ClassFile Op Lib Jvm.Stand Jvm.Free.XT Jvm.Free.ALB Jvm.Free.JM Jvm.Free
open Jvm.Lib.Cold (StaticIs)
/-- a char array whose places are chars -/
def Ch (a : Addr) (A : Cell) (U : State) : Prop := Arr .char a A U ∧ Typed .char A
theorem Ch.mv {a : Addr} {A : Cell} {U U' : State} (h : Ch a A U) (hal : U.vm.Alike U'.vm) (hh : U'.heap = U.heap) : Ch a A U' := ⟨h.1.mv hal hh, h.2⟩
theorem Ch.keep {a : Addr} {A : Cell} {U U' : State} (h : Ch a A U) (hal : U.vm.Alike U'.vm) (hk : U'.heap[a]? = some A) : Ch a A U' := ⟨h.1.keep hal hk, h.2⟩
/-- what place i of a char[]'s cell holds -/
def cv (A : Cell) (i : Nat) : Int32 := match A.slots[i]? with | some (.int x) => x | _ => 0
theorem Ch.get {a : Addr} {A : Cell} {U : State} (h : Ch a A U) {i : Nat} (hi : i < A.slots.size) : A.slots[i]? = some (.int (cv A i)) := by
  have e := Array.getElem?_eq_getElem hi
  have f := h.2 i _ e
  unfold cv; rw [e]
  generalize A.slots[i] = v at f
  cases v <;> simp [fits] at f ⊢
/-- the byte that i2b leaves of a char -/
def lo8 (x : Int32) : Int32 := x.toInt8.toInt32
theorem fits_lo8 (y : Int32) : fits .byte (.int (lo8 y)) = true := by
  have h1 := y.toInt8.le_toInt
  have h2 := y.toInt8.toInt_lt
  simp only [lo8, fits, Bool.and_eq_true, decide_eq_true_eq, Int32.le_iff_toInt_le, Int8.toInt_toInt32, show (-128 : Int32).toInt = -128 from by decide, show (127 : Int32).toInt = 127 from by decide]
  omega
/-- A' is A but that each place j of lo .. hi - 1 holds f j -/
def Laid (A A' : Cell) (lo hi : Nat) (f : Nat → Value) : Prop := A'.cls = A.cls ∧ A'.vm = A.vm ∧ A'.slots.size = A.slots.size ∧ ∀ i, A'.slots[i]? = if lo ≤ i ∧ i < hi then some (f i) else A.slots[i]?
theorem Laid.zero (A : Cell) (lo : Nat) (f : Nat → Value) : Laid A A lo (lo + 0) f := ⟨rfl, rfl, rfl, fun i => by rw [if_neg (by omega)]⟩
theorem Laid.step {A Ak : Cell} {lo k : Nat} {f : Nat → Value} {v : Value} (h : Laid A Ak lo k f) (hlo : lo ≤ k) (hk : k < Ak.slots.size) (hv : v = f k) : Laid A (Ak.setSlot k v) lo (k + 1) f := by
  refine ⟨h.1, h.2.1, by simpa [Cell.setSlot] using h.2.2.1, fun i => ?_⟩
  by_cases e : k = i
  · subst e; rw [Cell.slots_setSlot_self v hk, if_pos (by omega), hv]
  · rw [Cell.slots_setSlot_ne v e, h.2.2.2 i]
    by_cases q : lo ≤ i ∧ i < k
    · rw [if_pos q, if_pos (by omega)]
    · rw [if_neg q, if_neg (by omega)]
def U16 : String := "java/lang/StringUTF16"
namespace Cmp5
def yN : MethodName := ⟨"java/lang/StringUTF16", "compress", "([CI[BII)I"⟩
abbrev yB : ByteArray := jdk_52_method_21_code
theorem d0 : decode yB 0 = .ok (.iconst 0, 1) := by decide +kernel
theorem d1 : decode yB 1 = .ok (.istore 5, 2) := by decide +kernel
theorem d3 : decode yB 3 = .ok (.iload 5, 2) := by decide +kernel
theorem d5 : decode yB 5 = .ok (.iload 4, 2) := by decide +kernel
theorem d7 : decode yB 7 = .ok (.if_icmp (.ge) 37, 3) := by decide +kernel
theorem d10 : decode yB 10 = .ok (.aload_n 0, 1) := by decide +kernel
theorem d11 : decode yB 11 = .ok (.iload_n 1, 1) := by decide +kernel
theorem d12 : decode yB 12 = .ok (.caload, 1) := by decide +kernel
theorem d13 : decode yB 13 = .ok (.istore 6, 2) := by decide +kernel
theorem d15 : decode yB 15 = .ok (.iload 6, 2) := by decide +kernel
theorem d17 : decode yB 17 = .ok (.sipush 255, 3) := by decide +kernel
theorem d20 : decode yB 20 = .ok (.if_icmp (.le) 6, 3) := by decide +kernel
theorem d26 : decode yB 26 = .ok (.aload_n 2, 1) := by decide +kernel
theorem d27 : decode yB 27 = .ok (.iload_n 3, 1) := by decide +kernel
theorem d28 : decode yB 28 = .ok (.iload 6, 2) := by decide +kernel
theorem d30 : decode yB 30 = .ok (.i2b, 1) := by decide +kernel
theorem d31 : decode yB 31 = .ok (.bastore, 1) := by decide +kernel
theorem d32 : decode yB 32 = .ok (.iinc 1 1, 3) := by decide +kernel
theorem d35 : decode yB 35 = .ok (.iinc 3 1, 3) := by decide +kernel
theorem d38 : decode yB 38 = .ok (.iinc 5 1, 3) := by decide +kernel
theorem d41 : decode yB 41 = .ok (.goto (-38), 3) := by decide +kernel
theorem d44 : decode yB 44 = .ok (.iload 4, 2) := by decide +kernel
theorem d46 : decode yB 46 = .ok (.ireturn, 1) := by decide +kernel
def site : List Cond := []
def tab : Cond := tabOf yN yB 7 (some .int) site
def P (b : Addr) (A : Cell) (d : Addr) (B : Cell) (o q len : Nat) (args : Array Value) (s : State) : Prop := args = #[.ref b, .int (Int32.ofNat o), .ref d, .int (Int32.ofNat q), .int (Int32.ofNat len)] ∧ Ch b A s ∧ Arr .byte d B s ∧ b ≠ d ∧ o + len ≤ A.slots.size ∧ q + len ≤ B.slots.size ∧ ∀ i, i < len → ¬ 255 < cv A (o + i)
def E (b : Addr) (A : Cell) (d : Addr) (B : Cell) (o q len : Nat) (r : Option Value) (s u : State) : Prop := r = some (.int (Int32.ofNat len)) ∧ ∃ B', Put d B' s u ∧ Laid B B' q (q + len) (fun j => Value.int (lo8 (cv A (o + (j - q)))))
/-- no char of the range above 255: len; the places written hold each char's low byte -/
theorem law (l : Launch) (b : Addr) (A : Cell) (d : Addr) (B : Cell) (o q len : Nat) : Law l yN 5 5 0 0 yB 7 (some .int) site (P b A d B o q len) (E b A d B o q len) (copyLocs d q len) 0 0 := by
  refine Law.of_walk (plainFor_of_name (by decide +kernel)) (by decide +kernel) (by decide +kernel) (by decide) (fun _ _ h => by rw [h.1]; rfl) (fun _ U U' hal hh h => ⟨h.1, h.2.1.mv hal hh, h.2.2.1.mv hal hh, h.2.2.2⟩) (fun r U U' V V' h1 hal h2 h => ⟨h.1, h.2.elim fun B' q => ⟨B', q.1.mv h1 h2, q.2⟩⟩) ?_
  intro p e s m args below meth c s₁ X0 hexec hbytes hml hret hlk hnm hown hh0 W hP
  obtain ⟨rfl, hA, hB, hne, l1, l2, hp⟩ := hP
  have c1 : Steps p.tables e below (s₁.setTop (entryFrame m #[.ref b, .int (Int32.ofNat o), .ref d, .int (Int32.ofNat q), .int (Int32.ofNat len)] 7)) (s₁.setTop (mkF m 0 #[.val (.ref b), .val (.int (Int32.ofNat o)), .val (.ref d), .val (.int (Int32.ofNat q)), .val (.int (Int32.ofNat len)), .unset, .unset] [])) := entry rfl
  have hA0 := hA.1.mv X0.warmed.alike hh0
  have hB0 := hB.mv X0.warmed.alike hh0
  have a31 := hA.1.2.2.2
  have c2 : Steps p.tables e below (s₁.setTop (entryFrame m #[.ref b, .int (Int32.ofNat o), .ref d, .int (Int32.ofNat q), .int (Int32.ofNat len)] 7)) (s₁.setTop (mkF m 3 #[.val (.ref b), .val (.int (Int32.ofNat o)), .val (.ref d), .val (.int (Int32.ofNat q)), .val (.int (Int32.ofNat len)), .val (.int 0), .unset] [])) := c1.trans (by
    refine iconstV X0.here hexec rfl 0 (hb hbytes d0) (by decide) ?_
    refine XS.istore X0.here hexec rfl (hb hbytes d1) rfl rfl ?_
    exact Steps.refl _)
  have loop : ∀ (r i : Nat), i + r = len → ∀ (z : Slot), (z = .unset ∨ ∃ w, z = .val w ∧ w.category = 1) → ∀ (Tl : State) (Bk : Cell), Stand p l e { frames := 0, locals := 0, cells := 0, slots := 0 } s m #[.ref b, .int (Int32.ofNat o), .ref d, .int (Int32.ofNat q), .int (Int32.ofNat len)] below meth c Tl ([] ++ copyLocs d q i) 0 0 → Put d Bk s₁ Tl → Laid B Bk q (q + i) (fun j => Value.int (lo8 (cv A (o + (j - q))))) →
      Steps p.tables e below (s₁.setTop (entryFrame m #[.ref b, .int (Int32.ofNat o), .ref d, .int (Int32.ofNat q), .int (Int32.ofNat len)] 7)) (Tl.setTop (mkF m 3 #[.val (.ref b), .val (.int (Int32.ofNat (o + i))), .val (.ref d), .val (.int (Int32.ofNat (q + i))), .val (.int (Int32.ofNat len)), .val (.int (Int32.ofNat i)), z] [])) → ∃ (T' : State) (B' : Cell) (z' : Slot), Stand p l e { frames := 0, locals := 0, cells := 0, slots := 0 } s m #[.ref b, .int (Int32.ofNat o), .ref d, .int (Int32.ofNat q), .int (Int32.ofNat len)] below meth c T' ([] ++ copyLocs d q len) 0 0 ∧ Put d B' s₁ T' ∧ Laid B B' q (q + len) (fun j => Value.int (lo8 (cv A (o + (j - q))))) ∧
      Steps p.tables e below (s₁.setTop (entryFrame m #[.ref b, .int (Int32.ofNat o), .ref d, .int (Int32.ofNat q), .int (Int32.ofNat len)] 7)) (T'.setTop (mkF m 3 #[.val (.ref b), .val (.int (Int32.ofNat (o + len))), .val (.ref d), .val (.int (Int32.ofNat (q + len))), .val (.int (Int32.ofNat len)), .val (.int (Int32.ofNat len)), z'] [])) := by
    intro r
    induction r with
    | zero =>
      intro i hi z hz Tl Bk Xl pl fl cl
      have hil : i = len := by omega
      rw [hil] at Xl fl cl
      exact ⟨Tl, Bk, z, Xl, pl, fl, cl⟩
    | succ r ih =>
      intro i hi z hz Tl Bk Xl pl fl cl
      have all := X0.warmed.alike.symm.trans Xl.warmed.alike
      have hAl := hA0.keep all (pl.other hne hA0.1)
      have hBk := hB0.like all pl.1 fl.1 fl.2.1 fl.2.2.1
      have hlt : q + i < Bk.slots.size := by rw [fl.2.2.1]; omega
      have c3 : Steps p.tables e below (s₁.setTop (entryFrame m #[.ref b, .int (Int32.ofNat o), .ref d, .int (Int32.ofNat q), .int (Int32.ofNat len)] 7)) (Tl.setTop (mkF m 12 #[.val (.ref b), .val (.int (Int32.ofNat (o + i))), .val (.ref d), .val (.int (Int32.ofNat (q + i))), .val (.int (Int32.ofNat len)), .val (.int (Int32.ofNat i)), z] [.int (Int32.ofNat (o + i)), .ref b])) := cl.trans (by
        refine XS.iload Xl.here hexec rfl (hb hbytes d3) rfl ?_
        refine XS.iload Xl.here hexec rfl (hb hbytes d5) rfl ?_
        refine XS.icmpNo Xl.here hexec rfl (hb hbytes d7) rfl (ii_ge_f (lt32 (by omega) (by omega))) ?_
        refine XS.aloadN Xl.here hexec rfl (hb hbytes d10) rfl rfl ?_
        refine XS.iloadN Xl.here hexec rfl (hb hbytes d11) rfl ?_
        exact Steps.refl _)
      have c4 : Steps p.tables e below (s₁.setTop (entryFrame m #[.ref b, .int (Int32.ofNat o), .ref d, .int (Int32.ofNat q), .int (Int32.ofNat len)] 7)) (Tl.setTop (mkF m 13 #[.val (.ref b), .val (.int (Int32.ofNat (o + i))), .val (.ref d), .val (.int (Int32.ofNat (q + i))), .val (.int (Int32.ofNat len)), .val (.int (Int32.ofNat i)), z] [.int (cv A (o + i))])) := c3.trans (by
        refine Xl.aget hexec hAl rfl (hA.get (i := o + i) (by omega)) rfl rfl (hb hbytes d12) ?_
        exact Steps.refl _)
      have c5 : Steps p.tables e below (s₁.setTop (entryFrame m #[.ref b, .int (Int32.ofNat o), .ref d, .int (Int32.ofNat q), .int (Int32.ofNat len)] 7)) (Tl.setTop (mkF m 15 #[.val (.ref b), .val (.int (Int32.ofNat (o + i))), .val (.ref d), .val (.int (Int32.ofNat (q + i))), .val (.int (Int32.ofNat len)), .val (.int (Int32.ofNat i)), .val (.int (cv A (o + i)))] [])) := c4.trans (by
        refine XS.istoreS Xl.here hexec rfl (hb hbytes d13) rfl rfl hz ?_
        exact Steps.refl _)
      have c6 : Steps p.tables e below (s₁.setTop (entryFrame m #[.ref b, .int (Int32.ofNat o), .ref d, .int (Int32.ofNat q), .int (Int32.ofNat len)] 7)) (Tl.setTop (mkF m 31 #[.val (.ref b), .val (.int (Int32.ofNat (o + i))), .val (.ref d), .val (.int (Int32.ofNat (q + i))), .val (.int (Int32.ofNat len)), .val (.int (Int32.ofNat i)), .val (.int (cv A (o + i)))] [.int (lo8 (cv A (o + i))), .int (Int32.ofNat (q + i)), .ref d])) := c5.trans (by
        refine XS.iload Xl.here hexec rfl (hb hbytes d15) rfl ?_
        refine sipushV Xl.here hexec rfl 255 (hb hbytes d17) (by decide) ?_
        refine XS.icmpYes Xl.here hexec rfl (pc0 := 20) rfl (hb hbytes d20) rfl (ii_le_t (hp i (by omega))) (by decide) rfl ?_
        refine XS.aloadN Xl.here hexec rfl (hb hbytes d26) rfl rfl ?_
        refine XS.iloadN Xl.here hexec rfl (hb hbytes d27) rfl ?_
        refine XS.iload Xl.here hexec rfl (hb hbytes d28) rfl ?_
        refine i2b Xl.here hexec rfl (hb hbytes d30) rfl ?_
        exact Steps.refl _)
      obtain ⟨T7, X7, p7, st7⟩ := Xl.aput hexec hBk rfl hlt rfl (fits_lo8 (cv A (o + i))) (g := (mkF m 31 #[.val (.ref b), .val (.int (Int32.ofNat (o + i))), .val (.ref d), .val (.int (Int32.ofNat (q + i))), .val (.int (Int32.ofNat len)), .val (.int (Int32.ofNat i)), .val (.int (cv A (o + i)))] [.int (lo8 (cv A (o + i))), .int (Int32.ofNat (q + i)), .ref d])) rfl (rest := []) rfl (hb hbytes d31)
      have c8 : Steps p.tables e below (s₁.setTop (entryFrame m #[.ref b, .int (Int32.ofNat o), .ref d, .int (Int32.ofNat q), .int (Int32.ofNat len)] 7)) (T7.setTop (mkF m 32 #[.val (.ref b), .val (.int (Int32.ofNat (o + i))), .val (.ref d), .val (.int (Int32.ofNat (q + i))), .val (.int (Int32.ofNat len)), .val (.int (Int32.ofNat i)), .val (.int (cv A (o + i)))] [])) := c6.trans (st7 _ (Steps.refl _))
      have c9 : Steps p.tables e below (s₁.setTop (entryFrame m #[.ref b, .int (Int32.ofNat o), .ref d, .int (Int32.ofNat q), .int (Int32.ofNat len)] 7)) (T7.setTop (mkF m 3 #[.val (.ref b), .val (.int (Int32.ofNat (o + i) + 1)), .val (.ref d), .val (.int (Int32.ofNat (q + i) + 1)), .val (.int (Int32.ofNat len)), .val (.int (Int32.ofNat i + 1)), .val (.int (cv A (o + i)))] [])) := c8.trans (by
        refine iincV X7.here hexec rfl 1 (hb hbytes d32) (by decide) rfl rfl ?_
        refine iincV X7.here hexec rfl 1 (hb hbytes d35) (by decide) rfl rfl ?_
        refine iincV X7.here hexec rfl 1 (hb hbytes d38) (by decide) rfl rfl ?_
        refine XS.goto X7.here hexec rfl (pc0 := 41) rfl (hb hbytes d41) (by decide) rfl ?_
        exact Steps.refl _)
      have c10 : Steps p.tables e below (s₁.setTop (entryFrame m #[.ref b, .int (Int32.ofNat o), .ref d, .int (Int32.ofNat q), .int (Int32.ofNat len)] 7)) (T7.setTop (mkF m 3 #[.val (.ref b), .val (.int (Int32.ofNat (o + (i + 1)))), .val (.ref d), .val (.int (Int32.ofNat (q + (i + 1)))), .val (.int (Int32.ofNat len)), .val (.int (Int32.ofNat (i + 1))), .val (.int (cv A (o + i)))] [])) := by
        have := c9
        rw [succ32, succ32, succ32] at this
        exact this
      exact ih (i + 1) (by omega) _ (Or.inr ⟨_, rfl, rfl⟩) T7 _ (by rw [copyLocs_step, ← List.append_assoc]; exact X7) (pl.trans p7) (fl.step (by omega) hlt (by simp)) c10
  obtain ⟨T9, B9, z9, X9, p9, f9, g9⟩ := loop len 0 (by omega) .unset (Or.inl rfl) s₁ B (by simpa [copyLocs] using X0) ⟨hB0.1, fun _ _ => rfl, rfl⟩ (Laid.zero _ _ _) c2
  have c11 : Steps p.tables e below (s₁.setTop (entryFrame m #[.ref b, .int (Int32.ofNat o), .ref d, .int (Int32.ofNat q), .int (Int32.ofNat len)] 7)) (T9.setTop (mkF m 46 #[.val (.ref b), .val (.int (Int32.ofNat (o + len))), .val (.ref d), .val (.int (Int32.ofNat (q + len))), .val (.int (Int32.ofNat len)), .val (.int (Int32.ofNat len)), z9] [.int (Int32.ofNat len)])) := g9.trans (by
    refine XS.iload X9.here hexec rfl (hb hbytes d3) rfl ?_
    refine XS.iload X9.here hexec rfl (hb hbytes d5) rfl ?_
    refine XS.icmpYes X9.here hexec rfl (pc0 := 7) rfl (hb hbytes d7) rfl (ii_ge_t (nlt32 (by omega) (Nat.le_refl _))) (by decide) rfl ?_
    refine XS.iload X9.here hexec rfl (hb hbytes d44) rfl ?_
    exact Steps.refl _)
  exact ⟨T9, some (.int (Int32.ofNat len)), _, _, _, X9, by simp, rfl, rfl, (fun h => by cases h), ⟨rfl, B9, p9.from hh0, f9⟩, fun fs hl => c11.trans (X9.ireturnOut hexec hret rfl (Or.inl rfl) (hb hbytes d46) hl)⟩
end Cmp5
namespace Cmp3
def yN : MethodName := ⟨"java/lang/StringUTF16", "compress", "([CII)[B"⟩
abbrev yB : ByteArray := jdk_52_method_16_code
theorem d0 : decode yB 0 = .ok (.iload_n 2, 1) := by decide +kernel
theorem d1 : decode yB 1 = .ok (.newarray .byte, 2) := by decide +kernel
theorem d3 : decode yB 3 = .ok (.astore_n 3, 1) := by decide +kernel
theorem d4 : decode yB 4 = .ok (.aload_n 0, 1) := by decide +kernel
theorem d5 : decode yB 5 = .ok (.iload_n 1, 1) := by decide +kernel
theorem d6 : decode yB 6 = .ok (.aload_n 3, 1) := by decide +kernel
theorem d7 : decode yB 7 = .ok (.iconst 0, 1) := by decide +kernel
theorem d8 : decode yB 8 = .ok (.iload_n 2, 1) := by decide +kernel
theorem d9 : decode yB 9 = .ok (.invokestatic 115, 3) := by decide +kernel
theorem d12 : decode yB 12 = .ok (.istore 4, 2) := by decide +kernel
theorem d14 : decode yB 14 = .ok (.iload 4, 2) := by decide +kernel
theorem d16 : decode yB 16 = .ok (.iload_n 2, 1) := by decide +kernel
theorem d17 : decode yB 17 = .ok (.if_icmp (.eq) 40, 3) := by decide +kernel
theorem d57 : decode yB 57 = .ok (.aload_n 3, 1) := by decide +kernel
theorem d58 : decode yB 58 = .ok (.areturn, 1) := by decide +kernel
def site : List Cond := [.arrayClass .byte, Cmp5.tab] ++ staticW U16 115 Cmp5.yN
def tab : Cond := tabOf yN yB 6 (some (.array .byte)) site
def P (b : Addr) (A : Cell) (o len : Nat) (args : Array Value) (s : State) : Prop := args = #[.ref b, .int (Int32.ofNat o), .int (Int32.ofNat len)] ∧ Ch b A s ∧ o + len ≤ A.slots.size ∧ len ≤ 536870912 ∧ ∀ i, i < len → ¬ 255 < cv A (o + i)
def E (b : Addr) (A : Cell) (o len : Nat) (r : Option Value) (s u : State) : Prop := NewArr .byte "[B" len (fun j => .int (lo8 (cv A (o + j)))) r s u ∧ u.heap.size = s.heap.size + 1
/-- no char of the range above 255: a new byte[] of their low bytes -/
theorem law (l : Launch) (b : Addr) (A : Cell) (o len : Nat) : Law l yN 3 3 1 18 yB 6 (some (.array .byte)) site (P b A o len) (E b A o len) [] 1 len := by
  refine Law.of_walk (plainFor_of_name (by decide +kernel)) (by decide +kernel) (by decide +kernel) (by decide) (fun _ _ h => by rw [h.1]; rfl) (fun _ U U' hal hh h => ⟨h.1, h.2.1.mv hal hh, h.2.2⟩) (fun r U U' V V' h1 hal h2 h => ⟨NewArr.mv r U U' V V' h1 hal h2 h.1, by rw [h1, h2]; exact h.2⟩) ?_
  intro p e s m args below meth c s₁ X0 hexec hbytes hml hret hlk hnm hown hh0 W hP
  obtain ⟨rfl, hA, l1, l2, hp⟩ := hP
  have a31 := hA.1.2.2.2
  have c1 : Steps p.tables e below (s₁.setTop (entryFrame m #[.ref b, .int (Int32.ofNat o), .int (Int32.ofNat len)] 6)) (s₁.setTop (mkF m 0 #[.val (.ref b), .val (.int (Int32.ofNat o)), .val (.int (Int32.ofNat len)), .unset, .unset, .unset] [])) := entry rfl
  have c2 : Steps p.tables e below (s₁.setTop (entryFrame m #[.ref b, .int (Int32.ofNat o), .int (Int32.ofNat len)] 6)) (s₁.setTop (mkF m 1 #[.val (.ref b), .val (.int (Int32.ofNat o)), .val (.int (Int32.ofNat len)), .unset, .unset, .unset] [.int (Int32.ofNat len)])) := c1.trans (by
    refine XS.iloadN X0.here hexec rfl (hb hbytes d0) rfl ?_
    exact Steps.refl _)
  obtain ⟨T3, B3, X3, ba3, bs3, bv3, bh3, bf3, st3⟩ := X0.anew hexec (atype := .byte) (wk W (.arrayClass .byte)) rfl (by show len * 1 ≤ _; omega) (by omega) (g := (mkF m 1 #[.val (.ref b), .val (.int (Int32.ofNat o)), .val (.int (Int32.ofNat len)), .unset, .unset, .unset] [.int (Int32.ofNat len)])) rfl (hb hbytes d1) (rest := []) rfl (Nat.le_refl _) (by show 0 + len ≤ len; omega)
  rw [hh0] at ba3 st3
  have kp3 : XT.Kept s T3 := (XT.Kept.of_eq hh0).push bh3
  have hA3 := hA.keep X3.warmed.alike (kp3 _ _ hA.1.1)
  have hne : b ≠ s.heap.size := hA.1.ne
  have c4 : Steps p.tables e below (s₁.setTop (entryFrame m #[.ref b, .int (Int32.ofNat o), .int (Int32.ofNat len)] 6)) (T3.setTop (mkF m 3 #[.val (.ref b), .val (.int (Int32.ofNat o)), .val (.int (Int32.ofNat len)), .unset, .unset, .unset] [.ref s.heap.size])) := c2.trans (st3 _ (Steps.refl _))
  have c5 : Steps p.tables e below (s₁.setTop (entryFrame m #[.ref b, .int (Int32.ofNat o), .int (Int32.ofNat len)] 6)) (T3.setTop (mkF m 9 #[.val (.ref b), .val (.int (Int32.ofNat o)), .val (.int (Int32.ofNat len)), .val (.ref s.heap.size), .unset, .unset] [.int (Int32.ofNat len), .int 0, .ref s.heap.size, .int (Int32.ofNat o), .ref b])) := c4.trans (by
    refine XS.astoreN X3.here hexec rfl (hb hbytes d3) rfl rfl rfl ?_
    refine XS.aloadN X3.here hexec rfl (hb hbytes d4) rfl rfl ?_
    refine XS.iloadN X3.here hexec rfl (hb hbytes d5) rfl ?_
    refine XS.aloadN X3.here hexec rfl (hb hbytes d6) rfl rfl ?_
    refine iconstV X3.here hexec rfl 0 (hb hbytes d7) (by decide) ?_
    refine XS.iloadN X3.here hexec rfl (hb hbytes d8) rfl ?_
    exact Steps.refl _)
  obtain ⟨v6, T6, X6, E6, g6⟩ := X3.callS hexec (Cmp5.law l b A s.heap.size B3 o 0 len) hown (wks W (staticW U16 115 Cmp5.yN)) (wk W Cmp5.tab) (W := 0) (Nat.le_of_ble_eq_true rfl) (Nat.le_of_ble_eq_true rfl) (Nat.le_refl _) (by show 0 + len + 0 ≤ len; omega) (g := (mkF m 9 #[.val (.ref b), .val (.int (Int32.ofNat o)), .val (.int (Int32.ofNat len)), .val (.ref s.heap.size), .unset, .unset] [.int (Int32.ofNat len), .int (Int32.ofNat 0), .ref s.heap.size, .int (Int32.ofNat o), .ref b])) rfl (by rw [hml]; rfl) c5 (argsL := [.ref b, .int (Int32.ofNat o), .ref s.heap.size, .int (Int32.ofNat 0), .int (Int32.ofNat len)]) (rest := []) rfl rfl (by show 2 * 0 + 0 ≤ _; decide) (hb hbytes d9) (⟨rfl, hA3, ba3, hne, l1, by rw [bs3]; simp, hp⟩)
  obtain ⟨rfl, B6, p6, f6⟩ := E6
  have c7 : Steps p.tables e below (s₁.setTop (entryFrame m #[.ref b, .int (Int32.ofNat o), .int (Int32.ofNat len)] 6)) (T6.setTop (mkF m 12 #[.val (.ref b), .val (.int (Int32.ofNat o)), .val (.int (Int32.ofNat len)), .val (.ref s.heap.size), .unset, .unset] [.int (Int32.ofNat len)])) := g6
  have c8 : Steps p.tables e below (s₁.setTop (entryFrame m #[.ref b, .int (Int32.ofNat o), .int (Int32.ofNat len)] 6)) (T6.setTop (mkF m 58 #[.val (.ref b), .val (.int (Int32.ofNat o)), .val (.int (Int32.ofNat len)), .val (.ref s.heap.size), .val (.int (Int32.ofNat len)), .unset] [.ref s.heap.size])) := c7.trans (by
    refine XS.istore X6.here hexec rfl (hb hbytes d12) rfl rfl ?_
    refine XS.iload X6.here hexec rfl (hb hbytes d14) rfl ?_
    refine XS.iloadN X6.here hexec rfl (hb hbytes d16) rfl ?_
    refine XS.icmpYes X6.here hexec rfl (pc0 := 17) rfl (hb hbytes d17) rfl (ii_eq_t rfl) (by decide) rfl ?_
    refine XS.aloadN X6.here hexec rfl (hb hbytes d57) rfl rfl ?_
    exact Steps.refl _)
  have X8 := X6.wide (L' := []) (cells' := 1) (slots' := len) (fun x hx hlt => by
    simp only [List.nil_append, copyLocs, List.mem_map, List.mem_range] at hx
    obtain ⟨i, -, rfl⟩ := hx
    exact absurd hlt (Nat.lt_irrefl _)) (Nat.le_refl _) (by omega)
  exact ⟨T6, some (.ref s.heap.size), _, _, _, X8, rfl, rfl, rfl, (fun h => by cases h), ⟨⟨rfl, B6, ba3.like (X3.warmed.alike.symm.trans X6.warmed.alike) p6.1 f6.1 f6.2.1 f6.2.2.1, f6.2.1.trans bv3, by rw [X6.warmed.alike.findClass, f6.1]; exact bf3, by rw [f6.2.2.1, bs3]; simp, fun j hj => by rw [f6.2.2.2 j, if_pos (by omega)]; rfl, kp3.put p6 (Nat.le_refl _)⟩, by rw [p6.2.2, bh3, hh0]; simp⟩, fun fs hl => c8.trans (X8.areturnOut hexec rfl hret rfl (hb hbytes d58) hl)⟩
end Cmp3
namespace CodL
def yN : MethodName := ⟨"java/lang/StringUTF16", "coderFromArrayLen", "([BI)B"⟩
abbrev yB : ByteArray := jdk_52_method_15_code
theorem d0 : decode yB 0 = .ok (.iload_n 1, 1) := by decide +kernel
theorem d1 : decode yB 1 = .ok (.aload_n 0, 1) := by decide +kernel
theorem d2 : decode yB 2 = .ok (.arraylength, 1) := by decide +kernel
theorem d3 : decode yB 3 = .ok (.isub, 1) := by decide +kernel
theorem d4 : decode yB 4 = .ok (.bipush 31, 2) := by decide +kernel
theorem d6 : decode yB 6 = .ok (.iushr, 1) := by decide +kernel
theorem d7 : decode yB 7 = .ok (.i2b, 1) := by decide +kernel
theorem d8 : decode yB 8 = .ok (.ireturn, 1) := by decide +kernel
def site : List Cond := []
def tab : Cond := tabOf yN yB 2 (some .byte) site
def P (d : Addr) (B : Cell) (args : Array Value) (s : State) : Prop := args = #[.ref d, .int (Int32.ofNat B.slots.size)] ∧ Arr .byte d B s
def E (r : Option Value) (s u : State) : Prop := XT.PureE (some (.int 0)) r s u
/-- an array as long as the number of chars: LATIN1 -/
theorem law (l : Launch) (d : Addr) (B : Cell) : Law l yN 2 2 0 0 yB 2 (some .byte) site (P d B) E [] 0 0 := by
  refine Law.of_walk (plainFor_of_name (by decide +kernel)) (by decide +kernel) (by decide +kernel) (by decide) (fun _ _ h => by rw [h.1]; rfl) (fun _ U U' hal hh h => ⟨h.1, h.2.mv hal hh⟩) (fun r U U' V V' h1 hal h2 h => XT.PureE.mv r U U' V V' h1 hal h2 h) ?_
  intro p e s m args below meth c s₁ X0 hexec hbytes hml hret hlk hnm hown hh0 W hP
  obtain ⟨rfl, hB⟩ := hP
  have hB0 := hB.mv X0.warmed.alike hh0
  have c1 : Steps p.tables e below (s₁.setTop (entryFrame m #[.ref d, .int (Int32.ofNat B.slots.size)] 2)) (s₁.setTop (mkF m 0 #[.val (.ref d), .val (.int (Int32.ofNat B.slots.size))] [])) := entry rfl
  have c2 : Steps p.tables e below (s₁.setTop (entryFrame m #[.ref d, .int (Int32.ofNat B.slots.size)] 2)) (s₁.setTop (mkF m 2 #[.val (.ref d), .val (.int (Int32.ofNat B.slots.size))] [.ref d, .int (Int32.ofNat B.slots.size)])) := c1.trans (by
    refine XS.iloadN X0.here hexec rfl (hb hbytes d0) rfl ?_
    refine XS.aloadN X0.here hexec rfl (hb hbytes d1) rfl rfl ?_
    exact Steps.refl _)
  have c3 : Steps p.tables e below (s₁.setTop (entryFrame m #[.ref d, .int (Int32.ofNat B.slots.size)] 2)) (s₁.setTop (mkF m 8 #[.val (.ref d), .val (.int (Int32.ofNat B.slots.size))] [.int (lo8 (ushr (Int32.ofNat B.slots.size - Int32.ofNat B.slots.size) 31))])) := c2.trans (by
    refine X0.alen hexec hB0 rfl rfl (hb hbytes d2) ?_
    refine XS.isub X0.here hexec rfl (hb hbytes d3) rfl ?_
    refine bipushV X0.here hexec rfl 31 (hb hbytes d4) (by decide) ?_
    refine iushr X0.here hexec rfl (hb hbytes d6) rfl ?_
    refine i2b X0.here hexec rfl (hb hbytes d7) rfl ?_
    exact Steps.refl _)
  have e0 : lo8 (ushr (Int32.ofNat B.slots.size - Int32.ofNat B.slots.size) 31) = 0 := by rw [Int32.sub_self]; decide
  rw [e0] at c3
  exact ⟨s₁, some (.int 0), _, _, _, X0, rfl, rfl, rfl, (fun h => by cases h), ⟨rfl, hh0⟩, fun fs hl => c3.trans (X0.ireturnOut hexec hret rfl (Or.inr (Or.inr (Or.inl rfl))) (hb hbytes d8) hl)⟩
end CodL
/-- the String at a is Latin-1 over a new byte[] (the heap's one new cell): the low bytes of the len chars of A from o on; every cell but a is kept -/
def Got (a : Addr) (D : Cell) (fV fC : Field) (A : Cell) (o len : Nat) (r : Option Value) (s u : State) : Prop := r = none ∧ ∃ D' V : Cell, Blank "java/lang/String" a D' u ∧ Same D D' [fV.slot, fC.slot] ∧ D'.slots[fV.slot]? = some (.ref s.heap.size) ∧ D'.slots[fC.slot]? = some (.int 0) ∧ Arr .byte s.heap.size V u ∧ V.vm = .none ∧ u.vm.findClass "[B" = some V.cls ∧ V.slots.size = len ∧ (∀ j, j < len → V.slots[j]? = some (.int (lo8 (cv A (o + j))))) ∧ (∀ (y : Addr) (c : Cell), y ≠ a → s.heap[y]? = some c → u.heap[y]? = some c) ∧ u.heap.size = s.heap.size + 1
theorem Got.mv {a : Addr} {D A : Cell} {fV fC : Field} {o len : Nat} : ∀ r (U U' V V' : State), U'.heap = U.heap → V.vm.Alike V'.vm → V'.heap = V.heap → Got a D fV fC A o len r U V → Got a D fV fC A o len r U' V' :=
  fun r U U' V V' h1 hal h2 ⟨e0, D', X, a1, a2, a3, a4, a5, a6, a7, a8, a9, a10, a11⟩ => ⟨e0, D', X, a1.mv hal h2, a2, by rw [h1]; exact a3, a4, by rw [h1]; exact a5.mv hal h2, a6, by rw [hal.findClass]; exact a7, a8, a9, by rw [h1, h2]; exact a10, by rw [h1, h2]; exact a11⟩
namespace New4
def yN : MethodName := ⟨"java/lang/String", "<init>", "([CIILjava/lang/Void;)V"⟩
abbrev yB : ByteArray := jdk_42_method_149_code
theorem d0 : decode yB 0 = .ok (.aload_n 0, 1) := by decide +kernel
theorem d1 : decode yB 1 = .ok (.invokespecial 1, 3) := by decide +kernel
theorem d4 : decode yB 4 = .ok (.iload_n 3, 1) := by decide +kernel
theorem d5 : decode yB 5 = .ok (.ifCond (.ne) 22, 3) := by decide +kernel
theorem d27 : decode yB 27 = .ok (.getstatic 38, 3) := by decide +kernel
theorem d30 : decode yB 30 = .ok (.ifCond (.eq) 28, 3) := by decide +kernel
theorem d33 : decode yB 33 = .ok (.aload_n 1, 1) := by decide +kernel
theorem d34 : decode yB 34 = .ok (.iload_n 2, 1) := by decide +kernel
theorem d35 : decode yB 35 = .ok (.iload_n 3, 1) := by decide +kernel
theorem d36 : decode yB 36 = .ok (.invokestatic 177, 3) := by decide +kernel
theorem d39 : decode yB 39 = .ok (.astore 5, 2) := by decide +kernel
theorem d41 : decode yB 41 = .ok (.aload_n 0, 1) := by decide +kernel
theorem d42 : decode yB 42 = .ok (.aload 5, 2) := by decide +kernel
theorem d44 : decode yB 44 = .ok (.iload_n 3, 1) := by decide +kernel
theorem d45 : decode yB 45 = .ok (.invokestatic 47, 3) := by decide +kernel
theorem d48 : decode yB 48 = .ok (.putfield 15, 3) := by decide +kernel
theorem d51 : decode yB 51 = .ok (.aload_n 0, 1) := by decide +kernel
theorem d52 : decode yB 52 = .ok (.aload 5, 2) := by decide +kernel
theorem d54 : decode yB 54 = .ok (.putfield 9, 3) := by decide +kernel
theorem d57 : decode yB 57 = .ok (.return_, 1) := by decide +kernel
def site : List Cond := [.fieldLink "java/lang/String" 38 "java/lang/String" "COMPACT_STRINGS" "Z", Cmp3.tab, CodL.tab, .laysFinal "java/lang/String" "java/lang/String" "value" "[B", .fieldLink "java/lang/String" 9 "java/lang/String" "value" "[B", .laysFinal "java/lang/String" "java/lang/String" "coder" "B", .fieldLink "java/lang/String" 15 "java/lang/String" "coder" "B"] ++ objW "java/lang/String" 1 ++ staticW "java/lang/String" 177 Cmp3.yN ++ staticW "java/lang/String" 47 CodL.yN
def tab : Cond := tabOf yN yB 6 none site
def P (a : Addr) (D : Cell) (fV fC : Field) (b : Addr) (A : Cell) (z : Int32) (o len : Nat) (args : Array Value) (s : State) : Prop := args = #[.ref a, .ref b, .int (Int32.ofNat o), .int (Int32.ofNat len), .null] ∧ Blank "java/lang/String" a D s ∧ Found "java/lang/String" "value" "[B" fV s ∧ Found "java/lang/String" "coder" "B" fC s ∧ Ch b A s ∧ StaticIs s "java/lang/String" "COMPACT_STRINGS" "Z" (.int z) ∧ ¬ z = 0 ∧ 0 < len ∧ o + len ≤ A.slots.size ∧ len ≤ 536870912 ∧ ∀ i, i < len → ¬ 255 < cv A (o + i)
def E (a : Addr) (D : Cell) (fV fC : Field) (A : Cell) (o len : Nat) (r : Option Value) (s u : State) : Prop := Got a D fV fC A o len r s u
/-- len > 0, no char of the range above 255: a Latin-1 String of their low bytes -/
theorem law (l : Launch) (a : Addr) (D : Cell) (fV fC : Field) (b : Addr) (A : Cell) (z : Int32) (o len : Nat) : Law l yN 5 4 2 35 yB 6 none site (P a D fV fC b A z o len) (E a D fV fC A o len) [⟨a, fC.slot⟩, ⟨a, fV.slot⟩] 1 len := by
  refine Law.of_walk (plainFor_of_name (by decide +kernel)) (by decide +kernel) (by decide +kernel) (by decide) (fun _ _ h => by rw [h.1]; rfl) (fun _ U U' hal hh h => ⟨h.1, h.2.1.mv hal hh, h.2.2.1.al hal, h.2.2.2.1.al hal, h.2.2.2.2.1.mv hal hh, h.2.2.2.2.2.1.there hal hh, h.2.2.2.2.2.2⟩) (fun r U U' V V' h1 hal h2 h => Got.mv r U U' V V' h1 hal h2 h) ?_
  intro p e s m args below meth c s₁ X0 hexec hbytes hml hret hlk hnm hown hh0 W hP
  obtain ⟨rfl, hB, f1, f2, hA, s1, hz, l0, l1, l2, hp⟩ := hP
  have a31 := hA.1.2.2.2
  have c1 : Steps p.tables e below (s₁.setTop (entryFrame m #[.ref a, .ref b, .int (Int32.ofNat o), .int (Int32.ofNat len), .null] 6)) (s₁.setTop (mkF m 0 #[.val (.ref a), .val (.ref b), .val (.int (Int32.ofNat o)), .val (.int (Int32.ofNat len)), .val .null, .unset] [])) := entry rfl
  have c2 : Steps p.tables e below (s₁.setTop (entryFrame m #[.ref a, .ref b, .int (Int32.ofNat o), .int (Int32.ofNat len), .null] 6)) (s₁.setTop (mkF m 1 #[.val (.ref a), .val (.ref b), .val (.int (Int32.ofNat o)), .val (.int (Int32.ofNat len)), .val .null, .unset] [.ref a])) := c1.trans (by
    refine XS.aloadN X0.here hexec rfl (hb hbytes d0) rfl rfl ?_
    exact Steps.refl _)
  obtain ⟨T3, X3, q3, st3⟩ := X0.oinit hexec hown (wks W (objW "java/lang/String" 1)) (g := (mkF m 1 #[.val (.ref a), .val (.ref b), .val (.int (Int32.ofNat o)), .val (.int (Int32.ofNat len)), .val .null, .unset] [.ref a])) rfl (by rw [hml]; rfl) (rest := []) rfl (hb hbytes d1) (W := 0) (by show 2 * 0 + 0 ≤ _; decide) (Nat.le_of_ble_eq_true rfl) (Nat.le_of_ble_eq_true rfl)
  have hh3 := q3.trans hh0
  have c4 : Steps p.tables e below (s₁.setTop (entryFrame m #[.ref a, .ref b, .int (Int32.ofNat o), .int (Int32.ofNat len), .null] 6)) (T3.setTop (mkF m 27 #[.val (.ref a), .val (.ref b), .val (.int (Int32.ofNat o)), .val (.int (Int32.ofNat len)), .val .null, .unset] [])) := (c2.trans (st3 _ (Steps.refl _))).trans (by
    refine XS.iloadN X3.here hexec rfl (hb hbytes d4) rfl ?_
    refine XS.ifYes X3.here hexec rfl (pc0 := 5) rfl (hb hbytes d5) rfl (i0_ne_t (nz32 (by omega) l0)) (by decide) rfl ?_
    exact Steps.refl _)
  obtain ⟨T5, X5, q5, st5⟩ := X3.sget hexec hown (wk W (.fieldLink "java/lang/String" 38 "java/lang/String" "COMPACT_STRINGS" "Z")) s1 (fun _ _ h => by rw [hh3]; exact h) (g := (mkF m 27 #[.val (.ref a), .val (.ref b), .val (.int (Int32.ofNat o)), .val (.int (Int32.ofNat len)), .val .null, .unset] [])) rfl (hb hbytes d27)
  have hh5 := q5.trans hh3
  have c6 : Steps p.tables e below (s₁.setTop (entryFrame m #[.ref a, .ref b, .int (Int32.ofNat o), .int (Int32.ofNat len), .null] 6)) (T5.setTop (mkF m 30 #[.val (.ref a), .val (.ref b), .val (.int (Int32.ofNat o)), .val (.int (Int32.ofNat len)), .val .null, .unset] [.int z])) := c4.trans (st5 _ (Steps.refl _))
  have c7 : Steps p.tables e below (s₁.setTop (entryFrame m #[.ref a, .ref b, .int (Int32.ofNat o), .int (Int32.ofNat len), .null] 6)) (T5.setTop (mkF m 36 #[.val (.ref a), .val (.ref b), .val (.int (Int32.ofNat o)), .val (.int (Int32.ofNat len)), .val .null, .unset] [.int (Int32.ofNat len), .int (Int32.ofNat o), .ref b])) := c6.trans (by
    refine XS.ifNo X5.here hexec rfl (hb hbytes d30) rfl (i0_eq_f hz) ?_
    refine XS.aloadN X5.here hexec rfl (hb hbytes d33) rfl rfl ?_
    refine XS.iloadN X5.here hexec rfl (hb hbytes d34) rfl ?_
    refine XS.iloadN X5.here hexec rfl (hb hbytes d35) rfl ?_
    exact Steps.refl _)
  obtain ⟨v8, T8, X8, E8, g8⟩ := X5.callS hexec (Cmp3.law l b A o len) hown (wks W (staticW "java/lang/String" 177 Cmp3.yN)) (wk W Cmp3.tab) (W := 0) (Nat.le_of_ble_eq_true rfl) (Nat.le_of_ble_eq_true rfl) (Nat.le_refl _) (by show 0 + len ≤ len; omega) (g := (mkF m 36 #[.val (.ref a), .val (.ref b), .val (.int (Int32.ofNat o)), .val (.int (Int32.ofNat len)), .val .null, .unset] [.int (Int32.ofNat len), .int (Int32.ofNat o), .ref b])) rfl (by rw [hml]; rfl) c7 (argsL := [.ref b, .int (Int32.ofNat o), .int (Int32.ofNat len)]) (rest := []) rfl rfl (by show 2 * 0 + 0 ≤ _; decide) (hb hbytes d36) (⟨rfl, hA.mv X5.warmed.alike hh5, l1, l2, hp⟩)
  obtain ⟨e8, z8⟩ := E8
  obtain ⟨rfl, N, n1, n2, n3, n4, n5, n6⟩ := NewArr.mv _ T5 s _ _ hh5.symm (Vm.Alike.refl _) rfl e8
  rw [hh5] at z8
  have hB1 := hB.keep X8.warmed.alike (n6 _ _ hB.1)
  have hne : s.heap.size ≠ a := (Nat.ne_of_lt (Array.getElem?_eq_some_iff.mp hB.1).1).symm
  have c9 : Steps p.tables e below (s₁.setTop (entryFrame m #[.ref a, .ref b, .int (Int32.ofNat o), .int (Int32.ofNat len), .null] 6)) (T8.setTop (mkF m 39 #[.val (.ref a), .val (.ref b), .val (.int (Int32.ofNat o)), .val (.int (Int32.ofNat len)), .val .null, .unset] [.ref s.heap.size])) := g8
  have c10 : Steps p.tables e below (s₁.setTop (entryFrame m #[.ref a, .ref b, .int (Int32.ofNat o), .int (Int32.ofNat len), .null] 6)) (T8.setTop (mkF m 45 #[.val (.ref a), .val (.ref b), .val (.int (Int32.ofNat o)), .val (.int (Int32.ofNat len)), .val .null, .val (.ref s.heap.size)] [.int (Int32.ofNat N.slots.size), .ref s.heap.size, .ref a])) := by
    have hc : Steps p.tables e below (s₁.setTop (entryFrame m #[.ref a, .ref b, .int (Int32.ofNat o), .int (Int32.ofNat len), .null] 6)) (T8.setTop (mkF m 45 #[.val (.ref a), .val (.ref b), .val (.int (Int32.ofNat o)), .val (.int (Int32.ofNat len)), .val .null, .val (.ref s.heap.size)] [.int (Int32.ofNat len), .ref s.heap.size, .ref a])) := c9.trans (by
      refine XS.astore X8.here hexec rfl (hb hbytes d39) rfl rfl rfl ?_
      refine XS.aloadN X8.here hexec rfl (hb hbytes d41) rfl rfl ?_
      refine XS.aload X8.here hexec rfl (hb hbytes d42) rfl rfl ?_
      refine XS.iloadN X8.here hexec rfl (hb hbytes d44) rfl ?_
      exact Steps.refl _)
    rw [n4]; exact hc
  obtain ⟨v11, T11, X11, E11, g11⟩ := X8.callS hexec (CodL.law l s.heap.size N) hown (wks W (staticW "java/lang/String" 47 CodL.yN)) (wk W CodL.tab) (W := 1) (Nat.le_of_ble_eq_true rfl) (Nat.le_of_ble_eq_true rfl) (Nat.le_refl _) (by show 0 + len + 0 ≤ len; omega) (g := (mkF m 45 #[.val (.ref a), .val (.ref b), .val (.int (Int32.ofNat o)), .val (.int (Int32.ofNat len)), .val .null, .val (.ref s.heap.size)] [.int (Int32.ofNat N.slots.size), .ref s.heap.size, .ref a])) rfl (by rw [hml]; rfl) c10 (argsL := [.ref s.heap.size, .int (Int32.ofNat N.slots.size)]) (rest := [.ref a]) rfl rfl (by show 2 * 0 + (1 + 0) ≤ _; decide) (hb hbytes d45) (⟨rfl, n1⟩)
  obtain ⟨rfl, q11⟩ := E11
  have hB11 := hB1.mv (X8.warmed.alike.symm.trans X11.warmed.alike) q11
  have c12 : Steps p.tables e below (s₁.setTop (entryFrame m #[.ref a, .ref b, .int (Int32.ofNat o), .int (Int32.ofNat len), .null] 6)) (T11.setTop (mkF m 48 #[.val (.ref a), .val (.ref b), .val (.int (Int32.ofNat o)), .val (.int (Int32.ofNat len)), .val .null, .val (.ref s.heap.size)] [.int 0, .ref a])) := g11
  obtain ⟨T13, X13, p13, bl13, sl13, st13⟩ := X11.finit hexec hown (wk W (.fieldLink "java/lang/String" 15 "java/lang/String" "coder" "B")) (Or.inr ⟨_, (wk W (.laysFinal "java/lang/String" "java/lang/String" "coder" "B"))⟩) (Or.inl ⟨rfl, hnm⟩) f2 (Or.inl rfl) hB11 (t := .byte) (by decide +kernel) rfl (g := (mkF m 48 #[.val (.ref a), .val (.ref b), .val (.int (Int32.ofNat o)), .val (.int (Int32.ofNat len)), .val .null, .val (.ref s.heap.size)] [.int 0, .ref a])) rfl (rest := []) rfl (hb hbytes d48)
  have c14 : Steps p.tables e below (s₁.setTop (entryFrame m #[.ref a, .ref b, .int (Int32.ofNat o), .int (Int32.ofNat len), .null] 6)) (T13.setTop (mkF m 54 #[.val (.ref a), .val (.ref b), .val (.int (Int32.ofNat o)), .val (.int (Int32.ofNat len)), .val .null, .val (.ref s.heap.size)] [.ref s.heap.size, .ref a])) := (c12.trans (st13 _ (Steps.refl _))).trans (by
    refine XS.aloadN X13.here hexec rfl (hb hbytes d51) rfl rfl ?_
    refine XS.aload X13.here hexec rfl (hb hbytes d52) rfl rfl ?_
    exact Steps.refl _)
  obtain ⟨T15, X15, p15, bl15, sl15, st15⟩ := X13.finit hexec hown (wk W (.fieldLink "java/lang/String" 9 "java/lang/String" "value" "[B")) (Or.inr ⟨_, (wk W (.laysFinal "java/lang/String" "java/lang/String" "value" "[B"))⟩) (Or.inl ⟨rfl, hnm⟩) f1 (Or.inl rfl) bl13 (t := (.array .byte)) (by decide +kernel) rfl (g := (mkF m 54 #[.val (.ref a), .val (.ref b), .val (.int (Int32.ofNat o)), .val (.int (Int32.ofNat len)), .val .null, .val (.ref s.heap.size)] [.ref s.heap.size, .ref a])) rfl (rest := []) rfl (hb hbytes d54)
  have c16 : Steps p.tables e below (s₁.setTop (entryFrame m #[.ref a, .ref b, .int (Int32.ofNat o), .int (Int32.ofNat len), .null] 6)) (T15.setTop (mkF m 57 #[.val (.ref a), .val (.ref b), .val (.int (Int32.ofNat o)), .val (.int (Int32.ofNat len)), .val .null, .val (.ref s.heap.size)] [])) := c14.trans (st15 _ (Steps.refl _))
  have ap := apart (Or.inr ⟨_, (wk W (.laysFinal "java/lang/String" "java/lang/String" "value" "[B"))⟩) (Or.inr ⟨_, (wk W (.laysFinal "java/lang/String" "java/lang/String" "coder" "B"))⟩) f1 f2 (t₁ := .array .byte) (t₂ := .byte) (by decide +kernel) (by decide +kernel) (by decide)
  have al := X8.warmed.alike.symm.trans X15.warmed.alike
  have n7 : T11.heap[s.heap.size]? = some N := by rw [q11]; exact n1.1
  exact ⟨T15, none, _, _, _, X15, by simp, rfl, by omega, (fun _ => rfl), ⟨rfl, _, N, bl15, ((Same.refl D _).set _ (by simp)).set _ (by simp), sl15, (Cell.slots_setSlot_ne _ ap).trans sl13, n1.keep al (p15.other hne (p13.other hne n7)), n2, by rw [al.findClass]; exact n3, n4, n5, fun y c h1 h2 => p15.other h1 (p13.other h1 (by rw [q11]; exact n6 y c h2)), by rw [p15.2.2, p13.2.2, q11]; exact z8⟩, fun fs hl => c16.trans (X15.returnOut hexec hret (hb hbytes d57) hl)⟩
end New4
namespace New1
def yN : MethodName := ⟨"java/lang/String", "<init>", "([C)V"⟩
abbrev yB : ByteArray := jdk_42_method_3_code
theorem d0 : decode yB 0 = .ok (.aload_n 0, 1) := by decide +kernel
theorem d1 : decode yB 1 = .ok (.aload_n 1, 1) := by decide +kernel
theorem d2 : decode yB 2 = .ok (.iconst 0, 1) := by decide +kernel
theorem d3 : decode yB 3 = .ok (.aload_n 1, 1) := by decide +kernel
theorem d4 : decode yB 4 = .ok (.arraylength, 1) := by decide +kernel
theorem d5 : decode yB 5 = .ok (.aconst_null, 1) := by decide +kernel
theorem d6 : decode yB 6 = .ok (.invokespecial 27, 3) := by decide +kernel
theorem d9 : decode yB 9 = .ok (.return_, 1) := by decide +kernel
def site : List Cond := [New4.tab] ++ initW "java/lang/String" 27 New4.yN
def tab : Cond := tabOf yN yB 2 none site
def P (a : Addr) (D : Cell) (fV fC : Field) (b : Addr) (A : Cell) (z : Int32) (args : Array Value) (s : State) : Prop := args = #[.ref a, .ref b] ∧ Blank "java/lang/String" a D s ∧ Found "java/lang/String" "value" "[B" fV s ∧ Found "java/lang/String" "coder" "B" fC s ∧ Ch b A s ∧ StaticIs s "java/lang/String" "COMPACT_STRINGS" "Z" (.int z) ∧ ¬ z = 0 ∧ 0 < A.slots.size ∧ A.slots.size ≤ 536870912 ∧ ∀ i, i < A.slots.size → ¬ 255 < cv A i
def E (a : Addr) (D : Cell) (fV fC : Field) (A : Cell) (r : Option Value) (s u : State) : Prop := Got a D fV fC A 0 A.slots.size r s u
/-- new String(chars), not empty, no char above 255: a Latin-1 String of their low bytes -/
theorem law (l : Launch) (a : Addr) (D : Cell) (fV fC : Field) (b : Addr) (A : Cell) (z : Int32) : Law l yN 2 1 3 52 yB 2 none site (P a D fV fC b A z) (E a D fV fC A) [⟨a, fC.slot⟩, ⟨a, fV.slot⟩] 1 A.slots.size := by
  refine Law.of_walk (plainFor_of_name (by decide +kernel)) (by decide +kernel) (by decide +kernel) (by decide) (fun _ _ h => by rw [h.1]; rfl) (fun _ U U' hal hh h => ⟨h.1, h.2.1.mv hal hh, h.2.2.1.al hal, h.2.2.2.1.al hal, h.2.2.2.2.1.mv hal hh, h.2.2.2.2.2.1.there hal hh, h.2.2.2.2.2.2⟩) (fun r U U' V V' h1 hal h2 h => Got.mv r U U' V V' h1 hal h2 h) ?_
  intro p e s m args below meth c s₁ X0 hexec hbytes hml hret hlk hnm hown hh0 W hP
  obtain ⟨rfl, hB, f1, f2, hA, s1, hz, l0, l2, hp⟩ := hP
  have c1 : Steps p.tables e below (s₁.setTop (entryFrame m #[.ref a, .ref b] 2)) (s₁.setTop (mkF m 0 #[.val (.ref a), .val (.ref b)] [])) := entry rfl
  have c2 : Steps p.tables e below (s₁.setTop (entryFrame m #[.ref a, .ref b] 2)) (s₁.setTop (mkF m 6 #[.val (.ref a), .val (.ref b)] [.null, .int (Int32.ofNat A.slots.size), .int 0, .ref b, .ref a])) := c1.trans (by
    refine XS.aloadN X0.here hexec rfl (hb hbytes d0) rfl rfl ?_
    refine XS.aloadN X0.here hexec rfl (hb hbytes d1) rfl rfl ?_
    refine iconstV X0.here hexec rfl 0 (hb hbytes d2) (by decide) ?_
    refine XS.aloadN X0.here hexec rfl (hb hbytes d3) rfl rfl ?_
    refine X0.alen hexec (hA.1.mv X0.warmed.alike hh0) rfl rfl (hb hbytes d4) ?_
    refine XS.aconstNull X0.here hexec rfl (hb hbytes d5) ?_
    exact Steps.refl _)
  obtain ⟨v3, T3, X3, E3, g3⟩ := X0.callN hexec (New4.law l a D fV fC b A z 0 A.slots.size) rfl hown (wks W (initW "java/lang/String" 27 New4.yN)) (W New4.tab (by simp only [site, List.mem_cons, List.mem_append, true_or, or_true])) (W := 0) (Nat.le_of_ble_eq_true rfl) (Nat.le_of_ble_eq_true rfl) (Nat.le_refl _) (by show 0 + A.slots.size ≤ A.slots.size; omega) (g := (mkF m 6 #[.val (.ref a), .val (.ref b)] [.null, .int (Int32.ofNat A.slots.size), .int (Int32.ofNat 0), .ref b, .ref a])) rfl (by rw [hml]; rfl) c2 (argsL := [.ref b, .int (Int32.ofNat 0), .int (Int32.ofNat A.slots.size), .null]) (rest := []) rfl rfl (by show 2 * 0 + 0 ≤ _; decide) (hb hbytes d6) (⟨rfl, hB.mv X0.warmed.alike hh0, f1.al X0.warmed.alike, f2.al X0.warmed.alike, hA.mv X0.warmed.alike hh0, s1.there X0.warmed.alike hh0, hz, l0, by omega, l2, fun i hi => by rw [Nat.zero_add]; exact hp i hi⟩)
  have e0 := Got.mv _ s₁ s _ _ hh0.symm (Vm.Alike.refl _) rfl E3
  obtain rfl := e0.1
  have c4 : Steps p.tables e below (s₁.setTop (entryFrame m #[.ref a, .ref b] 2)) (T3.setTop (mkF m 9 #[.val (.ref a), .val (.ref b)] [])) := g3
  exact ⟨T3, none, _, _, _, X3, by simp, rfl, by omega, (fun _ => rfl), e0, fun fs hl => c4.trans (X3.returnOut hexec hret (hb hbytes d9) hl)⟩
theorem pays {l : Launch} {R : Room} {p : Program} {e : Env} {below : List Frame} {s : State} {sargs : Array Value} {len W : Nat} (a : Addr) (D : Cell) (fV fC : Field) (b : Addr) (A : Cell) (z : Int32) (htab : tab.before sargs s = true) (hfr : 4 ≤ R.frames) (hlo : W + 65 ≤ R.locals) :
    Back l R p e below s sargs yN len W (fun A₁ a₁ => A₁.cells + 1 ≤ R.cells ∧ A₁.slots + A.slots.size ≤ R.slots ∧ P a D fV fC b A z a₁ A₁.U) (fun A₁ _ v₁ B₁ => E a D fV fC A v₁ A₁.U B₁.U ∧ B₁.locs = A₁.locs ++ [⟨a, fC.slot⟩, ⟨a, fV.slot⟩] ∧ B₁.cells = A₁.cells + 1 ∧ B₁.slots = A₁.slots + A.slots.size) :=
  (law l a D fV fC b A z).pays htab hfr (by omega)
end New1
/-- the byte, read back as charAt reads it, is the char -/
theorem lo8_mask {x : Int32} (h0 : ¬ x < 0) (h1 : ¬ 255 < x) : lo8 x &&& 255 = x := by
  have t : ∀ k : Fin 256, lo8 (Int32.ofNat k.val) &&& 255 = Int32.ofNat k.val := by decide +kernel
  rw [Int32.lt_iff_toInt_lt] at h0 h1
  have e0 : (0 : Int32).toInt = 0 := rfl
  have e1 : (255 : Int32).toInt = 255 := rfl
  obtain ⟨k, hk⟩ : ∃ k : Nat, x.toInt = k := ⟨x.toInt.toNat, by omega⟩
  have hx : x = Int32.ofNat k := Int32.toInt_inj.mp (by rw [hk, Int32.toInt_ofNat_small (by omega)])
  rw [hx]
  exact t ⟨k, by omega⟩
end StrChars
namespace StrChars.Road
open Jvm Sem ClassFile Op Lib Jvm.Stand Jvm.Free Jvm.Free.XT
open Jvm.Lib.Cold (StaticIs)
abbrev ST : String := "java/lang/String"
/-- every table word that New1's law asks, flat -/
abbrev words : List Jvm.Cond := [.code New1.yN New1.yB 2 none, .initialized ST, .methodLink ST 27 New4.yN, .instanceMethod New4.yN,
  .code New4.yN New4.yB 6 none, .fieldLink ST 38 ST "COMPACT_STRINGS" "Z", .laysFinal ST ST "value" "[B", .fieldLink ST 9 ST "value" "[B", .laysFinal ST ST "coder" "B", .fieldLink ST 15 ST "coder" "B",
  .methodLink ST 1 Lib.objectInit, .instanceMethod Lib.objectInit, .code Lib.objectInit ⟨#[0xb1]⟩ 1 none, .methodLink ST 177 Cmp3.yN, .static Cmp3.yN, .methodLink ST 47 CodL.yN, .static CodL.yN,
  .code Cmp3.yN Cmp3.yB 6 (some (.array .byte)), .initialized U16, .arrayClass .byte, .methodLink U16 115 Cmp5.yN, .static Cmp5.yN, .code Cmp5.yN Cmp5.yB 7 (some .int), .code CodL.yN CodL.yB 2 (some .byte)]
theorem tab_of {a : Array Value} {s : State} (h : ∀ w ∈ words, w.before a s = true) : New1.tab.before a s = true := by
  have h5 : Cmp5.tab.before a s = true := unparts (wk h (.code Cmp5.yN Cmp5.yB 7 (some .int))) (wks h (.initialized Cmp5.yN.cls :: Cmp5.site))
  have hc : CodL.tab.before a s = true := unparts (wk h (.code CodL.yN CodL.yB 2 (some .byte))) (wks h (.initialized CodL.yN.cls :: CodL.site))
  have q5 : ∀ w ∈ Cmp5.tab :: words, w.before a s = true := fun w hw => (List.mem_cons.mp hw).elim (fun e => e ▸ h5) (h w)
  have h3 : Cmp3.tab.before a s = true := unparts (wk q5 (.code Cmp3.yN Cmp3.yB 6 (some (.array .byte)))) (wks q5 (.initialized Cmp3.yN.cls :: Cmp3.site))
  have q3 : ∀ w ∈ Cmp3.tab :: CodL.tab :: words, w.before a s = true := fun w hw => (List.mem_cons.mp hw).elim (fun e => e ▸ h3) fun hw => (List.mem_cons.mp hw).elim (fun e => e ▸ hc) (h w)
  have h4 : New4.tab.before a s = true := unparts (wk q3 (.code New4.yN New4.yB 6 none)) (wks q3 (.initialized New4.yN.cls :: New4.site))
  have q4 : ∀ w ∈ New4.tab :: words, w.before a s = true := fun w hw => (List.mem_cons.mp hw).elim (fun e => e ▸ h4) (h w)
  exact unparts (wk q4 (.code New1.yN New1.yB 2 none)) (wks q4 (.initialized New1.yN.cls :: New1.site))
/-- the words ride from the start Z to the walk's own state -/
theorem moved {Z s : State} {a0 args : Array Value} (hZ : Z.Warmed39 s.vm) (hw : ∀ d ∈ words, d.before a0 Z = true) : ∀ d ∈ words, d.before args s = true := fun d hd => by
  have q := hw d hd
  have t : ∀ d ∈ words, d = .arrayClass .byte ∨ (d.onTables && d.keepsFace) = true := by decide +kernel
  rcases t d hd with rfl | t
  · exact RoadKit.mvA hZ q
  · exact RoadKit.mv hZ q t
/-- WHAT COMES BACK, over the tables of the start Z: h the heap at the call, h' behind it -/
def Q (Z : State) (x : Addr) (A : Cell) (h : Heap) (v : Option Value) (h' : Heap) (L : List Loc) : Prop := v = none ∧ (∀ y ∈ L, y.base = x) ∧ RoadKit.Keep h h' [x] ∧ h'.size = h.size + 1 ∧ RoadKit.Exa Z h' x ST ∧ RoadKit.Fld Z h' x ST "value" "[B" (.ref h.size) ∧ RoadKit.Fld Z h' x ST "coder" "B" (.int 0) ∧
  (∃ V : Cell, RoadKit.Arr Z h' h.size V .byte ∧ V.vm = .none ∧ Z.vm.findClass "[B" = some V.cls ∧ V.slots.size = A.slots.size ∧ ∀ j, j < A.slots.size → V.slots[j]? = some (.int (lo8 (cv A j)))) ∧
  ∀ (O n d : String) (w : Value), RoadKit.Fld Z h x O n d w → RoadKit.slotOf Z O n d ≠ RoadKit.slotOf Z ST "value" "[B" → RoadKit.slotOf Z O n d ≠ RoadKit.slotOf Z ST "coder" "B" → RoadKit.Fld Z h' x O n d w
/-- **new String(chars) AT A CALL, IN THE ROAD'S FORM**: for specialBack behind newO: x the fresh String, b the char[] with the cell A -/
theorem back {p : Program} {l : Launch} {e : Env} {R : Room} {s : State} {args : Array Value} {below : List Frame} {len W : Nat} {Z : State} {a0 : Array Value} {h : Heap} (hZ : Z.Warmed39 s.vm) (hw : ∀ d ∈ words, d.before a0 Z = true) {kI : Nat} (wi : (Jvm.Cond.instantiable ST kI).before a0 Z = true)
    {x b : Addr} {A : Cell} {z : Int32} {v0 c0 : Value} (E : RoadKit.Exa Z h x ST) (V : RoadKit.Fld Z h x ST "value" "[B" v0) (C : RoadKit.Fld Z h x ST "coder" "B" c0) (K : RoadKit.Arr Z h b A .char) (hty : Typed .char A) (S : RoadKit.Sta Z h ST "COMPACT_STRINGS" "Z" (.int z)) (hz : ¬ z = 0)
    (l0 : 0 < A.slots.size) (l2 : A.slots.size ≤ 536870912) (hp : ∀ i, i < A.slots.size → ¬ 255 < cv A i) (hfr : 4 ≤ R.frames) (hlo : W + 65 ≤ R.locals) :
    Back l R p e below s args New1.yN len W (fun P a => a = #[.ref x, .ref b] ∧ P.U.heap = h ∧ P.cells + 1 ≤ R.cells ∧ P.slots + A.slots.size ≤ R.slots)
      (fun P _ v B => ∃ L, Q Z x A h v B.U.heap L ∧ B.locs = P.locs ++ L ∧ B.cells = P.cells + 1 ∧ B.slots = P.slots + A.slots.size) := by
  intro m meth c P g ig mk a X hg hsize hdg hW hn hp'
  obtain ⟨rfl, rfl, r1, r2⟩ := hp'
  have al : Z.vm.Alike P.U.vm := hZ.alike.trans X.warmed.alike
  obtain ⟨D, cfV, kV, iV, fV, hD, gV, stV, knV, obV, asV, slV⟩ := id V
  obtain ⟨D', cfC, kC, iC, fC, hD', gC, stC, -, -, asC, slC⟩ := id C
  cases hD.symm.trans hD'
  obtain ⟨D2, kD, e1, e2, e3, e4, e5⟩ := id E
  cases hD.symm.trans e1
  obtain ⟨c2, k2, i1, i2, i3, -⟩ := Cond.instantiable_spec wi
  cases e2.symm.trans i1
  cases e3.symm.trans i2
  obtain ⟨kU, u1, u2⟩ := al.2.2 _ _ e3
  have hB : Blank ST x D P.U := ⟨hD, ⟨knV, fun q hq => by rw [hq] at obV; cases obV⟩, by rw [al.findClass]; exact e2, kU, u1, by rw [u2]; exact i3, by rw [u2]; exact e5 i3⟩
  have F1 : Found ST "value" "[B" fV P.U := ⟨SBG.found_only al ⟨cfV, kV, iV, gV⟩, stV⟩
  have F2 : Found ST "coder" "B" fC P.U := ⟨SBG.found_only al ⟨cfC, kC, iC, gC⟩, stC⟩
  have hA : Ch b A P.U := ⟨⟨K.1, State.isArrayOf_alike al K.2.1, K.2.2, by omega⟩, hty⟩
  have hS : StaticIs P.U ST "COMPACT_STRINGS" "Z" (.int z) := by
    obtain ⟨cfS, iS, kS, fS, st, cS, t1, t2, t3, t4, t5, t6, t7⟩ := S
    exact StaticIs.there (s := { Z with heap := P.U.heap }) ⟨cfS, iS, kS, fS, st, cS, t1, t2, t3, t4, t5, (fun q => by rw [q] at t6; cases t6), t7⟩ al rfl
  obtain ⟨v, B, X', ⟨⟨hv, E', V', q1, q2, q3, q4, q5, q6, q7, q8, q9, q10, q11⟩, hl, hc, hs⟩, st⟩ := New1.pays x D fV fC b A z (tab_of (moved hZ hw)) hfr hlo m meth c P g ig mk _ X hg hsize hdg hW hn ⟨r1, r2, rfl, hB, F1, F2, hA, hS, hz, l0, l2, hp⟩
  have al' : Z.vm.Alike B.U.vm := hZ.alike.trans X'.warmed.alike
  have hsz : E'.slots.size = D.slots.size := by
    obtain ⟨-, -, -, kB, w1, w2, w3⟩ := q1
    obtain ⟨kB', y1, y2⟩ := al'.2.2 _ _ e3
    rw [q2.2.1] at w1
    cases w1.symm.trans y1
    rw [w3, e5 i3, y2]
  refine ⟨v, B, X', ⟨_, ⟨hv, ?_, ⟨by omega, fun y cy hy hn' => q10 y cy (by simpa using hn') hy, fun y cy hy => ?_⟩, q11, ⟨E', _, q1.1, by rw [q2.2.1]; exact e2, by rw [q2.2.1]; exact e3, by rw [q2.1]; exact obV, fun _ => by rw [hsz]; exact e5 i3⟩,
    ⟨E', cfV, kV, iV, fV, q1.1, gV, stV, by rw [q2.1]; exact knV, by rw [q2.1]; exact obV, by rw [q2.2.1]; exact asV, q3⟩, ⟨E', cfC, kC, iC, fC, q1.1, gC, stC, by rw [q2.1]; exact knV, by rw [q2.1]; exact obV, by rw [q2.2.1]; exact asC, q4⟩,
    ⟨V', ⟨q5.1, State.isArrayOf_alike al'.symm q5.2.1, q5.2.2.1⟩, q6, by rw [← al'.findClass]; exact q7, q8, fun j hj => by have := q9 j hj; rwa [Nat.zero_add] at this⟩, fun O n d w F n1 n2 => ?_⟩, hl, hc, hs⟩, st⟩
  · intro y hy
    simp only [List.mem_cons, List.not_mem_nil, or_false] at hy
    rcases hy with rfl | rfl <;> rfl
  · by_cases q : y = x
    · subst q
      cases hD.symm.trans hy
      exact ⟨E', q1.1, q2.2.1, q2.1, hsz⟩
    · exact ⟨cy, q10 y cy q hy, rfl, rfl, rfl⟩
  · obtain ⟨D3, cf, k, i, f, g1, g2, g3, g4, g5, g6, g7⟩ := F
    cases hD.symm.trans g1
    simp only [RoadKit.slotOf, g2, gV, gC, Option.map_some, Option.getD_some] at n1 n2
    exact ⟨E', cf, k, i, f, q1.1, g2, g3, by rw [q2.1]; exact g4, by rw [q2.1]; exact g5, by rw [q2.2.1]; exact g6, by rw [q2.2.2 f.slot (by simp [n1, n2])]; exact g7⟩
end StrChars.Road
namespace StrChars.Road
open Jvm Sem ClassFile Op Lib Jvm.Stand Jvm.Free Jvm.Free.XT
/-- WHAT COMES BACK, the byte[] as a list of values -/
def QA (Z : State) (x : Addr) (zn : Int32) (cs : List Int32) (h : Heap) (v : Option Value) (h' : Heap) (L : List Loc) : Prop := v = none ∧ (∀ y ∈ L, y.base = x) ∧ RoadKit.Keep h h' [x] ∧ h'.size = h.size + 1 ∧ RoadKit.Exa Z h' x ST ∧ RoadKit.Fld Z h' x ST "value" "[B" (.ref h.size) ∧ RoadKit.Fld Z h' x ST "coder" "B" (.int 0) ∧
  (∃ kb, Z.vm.findClass "[B" = some kb ∧ RoadKit.Arv Z h' h.size kb .byte zn (cs.map fun c => .int (lo8 c)) (.int 0)) ∧
  ∀ (O n d : String) (w : Value), RoadKit.Fld Z h x O n d w → RoadKit.slotOf Z O n d ≠ RoadKit.slotOf Z ST "value" "[B" → RoadKit.slotOf Z O n d ≠ RoadKit.slotOf Z ST "coder" "B" → RoadKit.Fld Z h' x O n d w
/-- **new String(chars) AT A CALL, THE ARRAYS AS LISTS**: the char[] at b holds cs, not empty, no char above 255 -/
theorem backArv {p : Program} {l : Launch} {e : Env} {R : Room} {s : State} {args : Array Value} {below : List Frame} {len W : Nat} {Z : State} {a0 : Array Value} {h : Heap} (hZ : Z.Warmed39 s.vm) (hw : ∀ d ∈ words, d.before a0 Z = true) {kI : Nat} (wi : (Jvm.Cond.instantiable ST kI).before a0 Z = true)
    {x b : Addr} {k : ClassId} {zn z : Int32} {cs : List Int32} {dv v0 c0 : Value} (E : RoadKit.Exa Z h x ST) (V : RoadKit.Fld Z h x ST "value" "[B" v0) (C : RoadKit.Fld Z h x ST "coder" "B" c0) (K : RoadKit.Arv Z h b k .char zn (cs.map Value.int) dv) (S : RoadKit.Sta Z h ST "COMPACT_STRINGS" "Z" (.int z)) (hz : ¬ z = 0)
    (hlen : zn.toNatClampNeg = cs.length) (h0 : 0 < cs.length) (hbig : cs.length ≤ 536870912) (hall : ∀ c ∈ cs, ¬ 255 < c) (hfr : 4 ≤ R.frames) (hlo : W + 65 ≤ R.locals) :
    Back l R p e below s args New1.yN len W (fun P a => a = #[.ref x, .ref b] ∧ P.U.heap = h ∧ P.cells + 1 ≤ R.cells ∧ P.slots + cs.length ≤ R.slots)
      (fun P _ v B => ∃ L, QA Z x zn cs h v B.U.heap L ∧ B.locs = P.locs ++ L ∧ B.cells = P.cells + 1 ∧ B.slots = P.slots + cs.length) := by
  obtain ⟨A, K1, K2, K3, K4, K5, K6⟩ := K
  have e : A.slots.size = cs.length := K3.trans hlen
  have hat : ∀ (i : Nat) (hi : i < cs.length), A.slots[i]? = some (.int cs[i]) := fun i hi => by rw [K5 i (by omega)]; simp [List.getD_eq_getElem?_getD, hi]
  have hcv : ∀ (i : Nat) (hi : i < cs.length), cv A i = cs[i] := fun i hi => by unfold cv; rw [hat i hi]
  have hty : Typed .char A := fun i v hv => by
    have hi : i < A.slots.size := (Array.getElem?_eq_some_iff.mp hv).1
    have q := K5 i hi
    rw [hv] at q
    rw [Option.some.inj q]
    exact K6 i hi
  refine Back.mono (back hZ hw wi E V C K1 hty S hz (by omega) (by omega) (fun i hi => by rw [hcv i (by omega)]; exact hall _ (List.getElem_mem _)) hfr hlo) (fun P a hp => ⟨hp.1, hp.2.1, hp.2.2.1, by rw [e]; exact hp.2.2.2⟩) (fun P a v B hp hq => ?_)
  obtain ⟨L, ⟨q1, q2, q3, q4, q5, q6, q7, ⟨V', v1, v2, v3, v4, v5⟩, q9⟩, hl, hc, hs⟩ := hq
  refine ⟨L, ⟨q1, q2, q3, q4, q5, q6, q7, ⟨V'.cls, v3, V', v1, rfl, by rw [v4, e, hlen], K4, fun i hi => ?_, fun i hi => ?_⟩, q9⟩, hl, hc, by rw [hs, e]⟩
  · have hi' : i < cs.length := by omega
    rw [v5 i (by omega), hcv i hi']; simp [List.getD_eq_getElem?_getD, hi']
  · have hi' : i < cs.length := by omega
    simp only [List.getD_eq_getElem?_getD, List.getElem?_map, List.getElem?_eq_getElem hi', Option.map_some, Option.getD_some]
    exact fits_lo8 _
end StrChars.Road
namespace StrChars.Road
open Jvm Sem ClassFile Op Lib Jvm.Stand Jvm.Free Jvm.Free.XT
/-- WHAT COMES BACK, in the writer's own shape -/
def QV (Z : State) (x : Addr) (N : Int32) (bs : List Int32) (h : Heap) (n0 : Nat) (v : Option Value) (h' : Heap) (L : List Loc) : Prop := v = none ∧ RoadKit.Fr n0 L ∧ RoadKit.Keep h h' [x] ∧ RoadKit.Exa Z h' x ST ∧ RoadKit.Fld Z h' x ST "coder" "B" (.int 0) ∧
  ∃ (t : Addr) (kb : ClassId), n0 ≤ t ∧ h.size ≤ t ∧ ¬ t = x ∧ RoadKit.Fld Z h' x ST "value" "[B" (.ref t) ∧ RoadKit.Arv Z h' t kb .byte N (bs.map Value.int) (.int 0)
/-- **new String(chars) AT A CALL, FOR THE WRITER**: a char[] of n known ints, each 0 to 255 -/
theorem backV {p : Program} {l : Launch} {e : Env} {R : Room} {s : State} {args : Array Value} {below : List Frame} {len W : Nat} {Z : State} {a0 : Array Value} {h : Heap} (hZ : Z.Warmed39 s.vm) (hw : ∀ d ∈ words, d.before a0 Z = true) {kI : Nat} (wi : (Jvm.Cond.instantiable ST kI).before a0 Z = true)
    {x b : Addr} {kC : ClassId} {cs bs : List Int32} {d v0 c0 : Value} {z N : Int32} {n n0 : Nat} (hx0 : n0 ≤ x) (hh0 : n0 ≤ h.size) (E : RoadKit.Exa Z h x ST) (V : RoadKit.Fld Z h x ST "value" "[B" v0) (C : RoadKit.Fld Z h x ST "coder" "B" c0) (K : RoadKit.Arv Z h b kC .char N (cs.map Value.int) d) (S : RoadKit.Sta Z h ST "COMPACT_STRINGS" "Z" (.int z)) (hz : ¬ z = 0)
    (hn : cs.length = n) (hN : N = Int32.ofNat n) (l0 : 0 < n) (l2 : n ≤ 4000) (hp : ∀ c ∈ cs, ¬ c < 0 ∧ ¬ (255 : Int32) < c) (hb : bs = cs.map (fun c => c.toInt8.toInt32)) (hfr : 4 ≤ R.frames) (hlo : W + 65 ≤ R.locals) :
    Back l R p e below s args (⟨"java/lang/String", "<init>", "([C)V"⟩ : MethodName) len W (fun P a => a = #[.ref x, .ref b] ∧ P.U.heap = h ∧ P.cells + 1 ≤ R.cells ∧ P.slots + n ≤ R.slots)
      (fun P _ v B => ∃ L, QV Z x N bs h n0 v B.U.heap L ∧ B.locs = P.locs ++ L ∧ B.cells = P.cells + 1 ∧ B.slots = P.slots + n) := by
  subst hn hN hb
  refine Back.mono (backArv hZ hw wi E V C K S hz (n32 (by omega)) l0 (by omega) (fun c hc => (hp c hc).2) hfr hlo) (fun P a hp => hp) (fun P a v B hp hq => ?_)
  obtain ⟨L, ⟨q1, q2, q3, q4, q5, q6, q7, ⟨kb, v1, v2⟩, q9⟩, hl, hc, hs⟩ := hq
  exact ⟨L, ⟨q1, fun y hy => by rw [q2 y hy]; exact hx0, q3, q5, q7, h.size, kb, hh0, Nat.le_refl _, Nat.ne_of_gt E.lt, q6, by rw [List.map_map]; exact v2⟩, hl, hc, hs⟩
end StrChars.Road
namespace StrChars
open Jvm Sem ClassFile Op Lib Jvm.Stand Jvm.Free.XT Jvm.Free.ALB Jvm.Free.JM Jvm.Free
open Jvm.Lib.Cold (StaticIs)
def hi8 (x : Int32) : Int32 := lo8 (x >>> ((8 : Int32) &&& 31))
/-- what StringUTF16.getChar makes of two bytes -/
def pairCh (u v : Int32) : Int32 := (((u &&& 255) <<< ((0 : Int32) &&& 31)) ||| ((v &&& 255) <<< ((8 : Int32) &&& 31))).toUInt32.toUInt16.toUInt32.toInt32
theorem lo8_and (x : Int32) : (lo8 x &&& 255).toBitVec.toNat = x.toBitVec.toNat % 256 := by
  have h : (lo8 x).toBitVec = (x.toBitVec.signExtend 8).signExtend 32 := by rw [lo8, Int8.toBitVec_toInt32, Int32.toBitVec_toInt8]
  rw [Int32.toBitVec_and, BitVec.toNat_and, h]
  have e : ((x.toBitVec.signExtend 8).signExtend 32).toNat % 256 = x.toBitVec.toNat % 256 := by
    rw [BitVec.toNat_signExtend]
    have hlt := x.toBitVec.isLt
    simp only [BitVec.toNat_setWidth, BitVec.toNat_signExtend]
    split <;> split <;> omega
  rw [← e]
  exact Nat.and_two_pow_sub_one_eq_mod _ 8
theorem pair_says {c : Int32} (h0 : ¬ c < 0) (h1 : ¬ 65535 < c) : pairCh (lo8 c) (hi8 c) = c := by
  rw [Int32.lt_iff_toInt_lt] at h0 h1
  have e0 : (0 : Int32).toInt = 0 := rfl
  have e1 : (65535 : Int32).toInt = 65535 := rfl
  have hc : c.toInt = c.toBitVec.toNat := by
    have := c.toBitVec.isLt
    have e : c.toInt = c.toBitVec.toInt := rfl
    rw [e] at h0 h1
    rw [e]
    rw [BitVec.toInt_eq_toNat_cond] at h0 h1 ⊢
    split at h0 <;> split <;> omega
  have hn : c.toBitVec.toNat < 65536 := by omega
  have a1 := lo8_and c
  have a2 : (hi8 c &&& 255).toBitVec.toNat = c.toBitVec.toNat / 256 := by
    rw [hi8, lo8_and]
    have e : ((8 : Int32) &&& 31) = 8 := by decide
    rw [e, Int32.toBitVec_shiftRight]
    have e2 : ((8 : Int32).toBitVec.smod 32) = 8#32 := by decide
    rw [e2, BitVec.sshiftRight_eq', BitVec.toNat_sshiftRight_of_msb_false (by rw [BitVec.msb_eq_false_iff_two_mul_lt]; omega)]
    show c.toBitVec.toNat >>> 8 % 256 = _
    rw [Nat.shiftRight_eq_div_pow]
    omega
  unfold pairCh
  apply Int32.toBitVec_inj.mp
  apply BitVec.eq_of_toNat_eq
  have f0 : ((0 : Int32) &&& 31) = 0 := by decide
  have f8 : ((8 : Int32) &&& 31) = 8 := by decide
  rw [f0, f8]
  have g : (((lo8 c &&& 255) <<< (0 : Int32)) ||| ((hi8 c &&& 255) <<< (8 : Int32))).toBitVec.toNat = c.toBitVec.toNat := by
    rw [Int32.toBitVec_or, Int32.toBitVec_shiftLeft, Int32.toBitVec_shiftLeft]
    have s0 : ((0 : Int32).toBitVec.smod 32) = 0#32 := by decide
    have s8 : ((8 : Int32).toBitVec.smod 32) = 8#32 := by decide
    rw [s0, s8, BitVec.toNat_or]
    simp only [BitVec.shiftLeft_eq', BitVec.toNat_shiftLeft, a1, a2]
    show (c.toBitVec.toNat % 256) <<< 0 % 2 ^ 32 ||| (c.toBitVec.toNat / 256) <<< 8 % 2 ^ 32 = _
    rw [Nat.shiftLeft_zero, Nat.mod_eq_of_lt (show c.toBitVec.toNat % 256 < 2 ^ 32 by omega), Nat.mod_eq_of_lt (show (c.toBitVec.toNat / 256) <<< 8 < 2 ^ 32 by rw [Nat.shiftLeft_eq]; omega), Nat.or_comm, ← Nat.shiftLeft_add_eq_or_of_lt (by omega), Nat.shiftLeft_eq]
    omega
  show BitVec.toNat (((((lo8 c &&& 255) <<< (0 : Int32)) ||| ((hi8 c &&& 255) <<< (8 : Int32))).toBitVec.setWidth 16).setWidth 32) = _
  rw [BitVec.toNat_setWidth, BitVec.toNat_setWidth, g]
  omega
end StrChars
namespace StrChars
open Jvm Sem ClassFile Op Lib Jvm.Stand Jvm.Free.XT Jvm.Free.ALB Jvm.Free.JM Jvm.Free
open Jvm.Lib.Cold (StaticIs)
/-- the array's cell V codes the n chars f 0 .. f (n - 1) by the coder cd, as the JDK does: coder 1 just where some char is above 255 -/
def Cod (cd : Int32) (n : Nat) (f : Nat → Int32) (V : Cell) : Prop := (cd = 0 ∧ V.slots.size = n ∧ ∀ j, j < n → V.slots[j]? = some (.int (lo8 (f j))) ∧ ¬ 255 < f j) ∨ (cd = 1 ∧ V.slots.size = 2 * n ∧ (∀ j, j < n → V.slots[2 * j]? = some (.int (lo8 (f j))) ∧ V.slots[2 * j + 1]? = some (.int (hi8 (f j)))) ∧ ∃ j, j < n ∧ 255 < f j)
/-- **x is a String of the n chars f 0 .. f (n - 1)**, Latin-1 or UTF-16; its array at t has the cell V -/
def Txt (x t : Addr) (V : Cell) (cd : Int32) (n : Nat) (f : Nat → Int32) (U : State) : Prop := Exact "java/lang/String" x U ∧ Has x "java/lang/String" "value" "[B" (.ref t) U ∧ Has x "java/lang/String" "coder" "B" (.int cd) U ∧ XT.Arr .byte t V U ∧ Cod cd n f V ∧ ∀ j, j < n → ¬ f j < 0 ∧ ¬ 65535 < f j
theorem Txt.mv {x t : Addr} {V : Cell} {cd : Int32} {n : Nat} {f : Nat → Int32} {U U' : State} (h : Txt x t V cd n f U) (hal : U.vm.Alike U'.vm) (hh : U'.heap = U.heap) : Txt x t V cd n f U' := ⟨h.1.mv hal hh, h.2.1.mv hal hh, h.2.2.1.mv hal hh, h.2.2.2.1.mv hal hh, h.2.2.2.2⟩
end StrChars
namespace StrChars.Road
open Jvm Sem ClassFile Op Lib Jvm.Stand Jvm.Free Jvm.Free.XT
open Jvm.Lib.Cold (StaticIs)
theorem consq {a : Array Value} {s : State} {c : Jvm.Cond} {L : List Jvm.Cond} (h0 : c.before a s = true) (h : ∀ w ∈ L, w.before a s = true) : ∀ w ∈ c :: L, w.before a s = true := fun w hw => (List.mem_cons.mp hw).elim (fun e => e ▸ h0) (h w)
/-- the bytes of the chars cs, low before high -/
def wideBytes : List Int32 → List Value
  | [] => []
  | c :: cs => .int (lo8 c) :: .int (hi8 c) :: wideBytes cs
theorem wide_lo (d : Value) : ∀ (cs : List Int32) (j : Nat), j < cs.length → (wideBytes cs).getD (2 * j) d = .int (lo8 (cs.getD j 0))
  | [], j, h => absurd h (Nat.not_lt_zero j)
  | c :: cs, 0, _ => rfl
  | c :: cs, j + 1, h => by
    have q := wide_lo d cs j (by simpa using h)
    rw [show 2 * (j + 1) = 2 * j + 1 + 1 from by omega]
    simpa [wideBytes] using q
theorem wide_hi (d : Value) : ∀ (cs : List Int32) (j : Nat), j < cs.length → (wideBytes cs).getD (2 * j + 1) d = .int (hi8 (cs.getD j 0))
  | [], j, h => absurd h (Nat.not_lt_zero j)
  | c :: cs, 0, _ => rfl
  | c :: cs, j + 1, h => by
    have q := wide_hi d cs j (by simpa using h)
    rw [show 2 * (j + 1) + 1 = 2 * j + 1 + 1 + 1 from by omega]
    simpa [wideBytes] using q
theorem low_at (d : Value) (cs : List Int32) (j : Nat) (h : j < cs.length) : (cs.map fun c => Value.int (lo8 c)).getD j d = .int (lo8 (cs.getD j 0)) := by
  simp [List.getD_eq_getElem?_getD, h]
/-- an array of N2 bytes vs codes the chars cs by the coder cd -/
def CodA (cs : List Int32) (cd N2 : Int32) (vs : List Value) : Prop := (cd = 0 ∧ N2 = Int32.ofNat cs.length ∧ vs = (cs.map fun c => Value.int (lo8 c)) ∧ ∀ c ∈ cs, ¬ 255 < c) ∨ (cd = 1 ∧ N2 = Int32.ofNat (2 * cs.length) ∧ vs = wideBytes cs ∧ ∃ c ∈ cs, 255 < c)
theorem CodA.cod {cs : List Int32} {cd N2 : Int32} {vs : List Value} {V : Cell} (h : CodA cs cd N2 vs) (hn : 2 * cs.length < 2 ^ 31) (hs : V.slots.size = N2.toNatClampNeg) (hv : RoadKit.Has V vs (.int 0)) : Cod cd cs.length (fun j => cs.getD j 0) V := by
  rcases h with ⟨rfl, rfl, rfl, h⟩ | ⟨rfl, rfl, rfl, c, hc, hw⟩
  · rw [n32 (by omega)] at hs
    exact Or.inl ⟨rfl, hs, fun j hj => ⟨by rw [hv j (by omega), low_at _ _ _ hj], by
      have e : cs.getD j 0 = cs[j] := by simp [List.getD_eq_getElem?_getD, hj]
      show ¬ 255 < cs.getD j 0
      rw [e]; exact h _ (List.getElem_mem _)⟩⟩
  · rw [n32 (by omega)] at hs
    obtain ⟨j, hj, rfl⟩ := List.getElem_of_mem hc
    exact Or.inr ⟨rfl, hs, fun j hj => ⟨by rw [hv _ (by omega), wide_lo _ _ _ hj], by rw [hv _ (by omega), wide_hi _ _ _ hj]⟩, j, hj, by
      have e : cs.getD j 0 = cs[j] := by simp [List.getD_eq_getElem?_getD, hj]
      show 255 < cs.getD j 0
      rw [e]; exact hw⟩
/-- an object of exactly java/lang/String, its two fields found: as the laws ask it -/
theorem strObj {Z U : State} {a0 : Array Value} {kI : Nat} (wi : (Jvm.Cond.instantiable ST kI).before a0 Z = true) (al : Z.vm.Alike U.vm) {x : Addr} {v0 c0 : Value} (E : RoadKit.Exa Z U.heap x ST) (V : RoadKit.Fld Z U.heap x ST "value" "[B" v0) (C : RoadKit.Fld Z U.heap x ST "coder" "B" c0) :
    ∃ (D : Cell) (fV fC : Field), Blank ST x D U ∧ Found ST "value" "[B" fV U ∧ Found ST "coder" "B" fC U ∧ D.slots[fV.slot]? = some v0 ∧ D.slots[fC.slot]? = some c0 ∧ RoadKit.slotOf Z ST "value" "[B" = fV.slot ∧ RoadKit.slotOf Z ST "coder" "B" = fC.slot := by
  obtain ⟨D, cfV, kV, iV, fV, hD, gV, stV, knV, obV, asV, slV⟩ := V
  obtain ⟨D', cfC, kC, iC, fC, hD', gC, stC, -, -, asC, slC⟩ := C
  cases hD.symm.trans hD'
  obtain ⟨D2, kD, e1, e2, e3, e4, e5⟩ := E
  cases hD.symm.trans e1
  obtain ⟨c2, k2, i1, i2, i3, -⟩ := Cond.instantiable_spec wi
  cases e2.symm.trans i1
  cases e3.symm.trans i2
  obtain ⟨kU, u1, u2⟩ := al.2.2 _ _ e3
  exact ⟨D, fV, fC, ⟨hD, ⟨knV, fun q hq => by rw [hq] at obV; cases obV⟩, by rw [al.findClass]; exact e2, kU, u1, by rw [u2]; exact i3, by rw [u2]; exact e5 i3⟩, ⟨SBG.found_only al ⟨cfV, kV, iV, gV⟩, stV⟩, ⟨SBG.found_only al ⟨cfC, kC, iC, gC⟩, stC⟩, slV, slC, by simp [RoadKit.slotOf, gV], by simp [RoadKit.slotOf, gC]⟩
theorem sta_is {Z U : State} (al : Z.vm.Alike U.vm) {C n d : String} {v : Value} (S : RoadKit.Sta Z U.heap C n d v) : StaticIs U C n d v := by
  obtain ⟨cfS, iS, kS, fS, st, cS, t1, t2, t3, t4, t5, t6, t7⟩ := S
  exact StaticIs.there (s := { Z with heap := U.heap }) ⟨cfS, iS, kS, fS, st, cS, t1, t2, t3, t4, t5, (fun q => by rw [q] at t6; cases t6), t7⟩ al rfl
end StrChars.Road
namespace StrChars
open Jvm Sem ClassFile Op Lib Jvm.Stand Jvm.Free.XT Jvm.Free.ALB Jvm.Free.JM Jvm.Free
open Jvm.Lib.Cold (StaticIs)
/-- what place i of a byte[]'s cell holds -/
def yv (A : Cell) (i : Nat) : Int32 := match A.slots[i]? with | some (.int x) => x | _ => 0
theorem yv_get {a : Addr} {A : Cell} {U : State} (h : XT.Arr .byte a A U) (ht : Typed .byte A) {i : Nat} (hi : i < A.slots.size) : A.slots[i]? = some (.int (yv A i)) := by
  have e := Array.getElem?_eq_getElem hi
  have f := ht i _ e
  unfold yv; rw [e]
  generalize A.slots[i] = v at f
  cases v <;> simp [fits] at f ⊢
/-- the two arrays are equal, place for place -/
def EqC (A B : Cell) : Prop := A.slots.size = B.slots.size ∧ ∀ i, i < A.slots.size → yv A i = yv B i
/-- a boolean that says whether p -/
def Says01 (q : Prop) (r : Option Value) (s u : State) : Prop := ∃ v : Int32, r = some (.int v) ∧ u.heap = s.heap ∧ ((v = 1 ∧ q) ∨ (v = 0 ∧ ¬ q))
theorem Says01.mv {q : Prop} : ∀ r (U U' V V' : State), U'.heap = U.heap → V.vm.Alike V'.vm → V'.heap = V.heap → Says01 q r U V → Says01 q r U' V' :=
  fun r U U' V V' h1 _ h2 ⟨v, a, b, c⟩ => ⟨v, a, by rw [h1, h2]; exact b, c⟩
namespace LEq
def yN : MethodName := ⟨"java/lang/StringLatin1", "equals", "([B[B)Z"⟩
abbrev yB : ByteArray := jdk_43_method_13_code
theorem d0 : decode yB 0 = .ok (.aload_n 0, 1) := by decide +kernel
theorem d1 : decode yB 1 = .ok (.arraylength, 1) := by decide +kernel
theorem d2 : decode yB 2 = .ok (.aload_n 1, 1) := by decide +kernel
theorem d3 : decode yB 3 = .ok (.arraylength, 1) := by decide +kernel
theorem d4 : decode yB 4 = .ok (.if_icmp (.ne) 30, 3) := by decide +kernel
theorem d7 : decode yB 7 = .ok (.iconst 0, 1) := by decide +kernel
theorem d8 : decode yB 8 = .ok (.istore_n 2, 1) := by decide +kernel
theorem d9 : decode yB 9 = .ok (.iload_n 2, 1) := by decide +kernel
theorem d10 : decode yB 10 = .ok (.aload_n 0, 1) := by decide +kernel
theorem d11 : decode yB 11 = .ok (.arraylength, 1) := by decide +kernel
theorem d12 : decode yB 12 = .ok (.if_icmp (.ge) 20, 3) := by decide +kernel
theorem d15 : decode yB 15 = .ok (.aload_n 0, 1) := by decide +kernel
theorem d16 : decode yB 16 = .ok (.iload_n 2, 1) := by decide +kernel
theorem d17 : decode yB 17 = .ok (.baload, 1) := by decide +kernel
theorem d18 : decode yB 18 = .ok (.aload_n 1, 1) := by decide +kernel
theorem d19 : decode yB 19 = .ok (.iload_n 2, 1) := by decide +kernel
theorem d20 : decode yB 20 = .ok (.baload, 1) := by decide +kernel
theorem d21 : decode yB 21 = .ok (.if_icmp (.eq) 5, 3) := by decide +kernel
theorem d24 : decode yB 24 = .ok (.iconst 0, 1) := by decide +kernel
theorem d25 : decode yB 25 = .ok (.ireturn, 1) := by decide +kernel
theorem d26 : decode yB 26 = .ok (.iinc 2 1, 3) := by decide +kernel
theorem d29 : decode yB 29 = .ok (.goto (-20), 3) := by decide +kernel
theorem d32 : decode yB 32 = .ok (.iconst 1, 1) := by decide +kernel
theorem d33 : decode yB 33 = .ok (.ireturn, 1) := by decide +kernel
theorem d34 : decode yB 34 = .ok (.iconst 0, 1) := by decide +kernel
theorem d35 : decode yB 35 = .ok (.ireturn, 1) := by decide +kernel
def site : List Cond := []
def tab : Cond := tabOf yN yB 3 (some .boolean) site
def P (a : Addr) (A : Cell) (b : Addr) (B : Cell) (args : Array Value) (s : State) : Prop := args = #[.ref a, .ref b] ∧ XT.Arr .byte a A s ∧ Typed .byte A ∧ XT.Arr .byte b B s ∧ Typed .byte B
/-- whether two byte[] are equal, place for place -/
theorem law (l : Launch) (a : Addr) (A : Cell) (b : Addr) (B : Cell) : Law l yN 2 2 0 0 yB 3 (some .boolean) site (P a A b B) (Says01 (EqC A B)) [] 0 0 := by
  refine Law.of_walk (plainFor_of_name (by decide +kernel)) (by decide +kernel) (by decide +kernel) (by decide) (fun _ _ h => by rw [h.1]; rfl) (fun _ U U' hal hh h => ⟨h.1, h.2.1.mv hal hh, h.2.2.1, h.2.2.2.1.mv hal hh, h.2.2.2.2⟩) (fun r U U' V V' h1 hal h2 h => Says01.mv r U U' V V' h1 hal h2 h) ?_
  intro p e s m args below meth c s₁ X0 hexec hbytes hml hret hlk hnm hown hh0 W hP
  obtain ⟨rfl, hA, tA, hB, tB⟩ := hP
  have a31 := hA.2.2.2
  have b31 := hB.2.2.2
  have hA0 := hA.mv X0.warmed.alike hh0
  have hB0 := hB.mv X0.warmed.alike hh0
  have c1 : Steps p.tables e below (s₁.setTop (entryFrame m #[.ref a, .ref b] 3)) (s₁.setTop (mkF m 0 #[.val (.ref a), .val (.ref b), .unset] [])) := entry rfl
  have c2 : Steps p.tables e below (s₁.setTop (entryFrame m #[.ref a, .ref b] 3)) (s₁.setTop (mkF m 4 #[.val (.ref a), .val (.ref b), .unset] [.int (Int32.ofNat B.slots.size), .int (Int32.ofNat A.slots.size)])) := c1.trans (by
    refine XS.aloadN X0.here hexec rfl (hb hbytes d0) rfl rfl ?_
    refine X0.alen hexec hA0 rfl rfl (hb hbytes d1) ?_
    refine XS.aloadN X0.here hexec rfl (hb hbytes d2) rfl rfl ?_
    refine X0.alen hexec hB0 rfl rfl (hb hbytes d3) ?_
    exact Steps.refl _)
  by_cases hs : A.slots.size = B.slots.size
  · have c3 : Steps p.tables e below (s₁.setTop (entryFrame m #[.ref a, .ref b] 3)) (s₁.setTop (mkF m 9 #[.val (.ref a), .val (.ref b), .val (.int 0)] [])) := c2.trans (by
      refine XS.icmpNo X0.here hexec rfl (hb hbytes d4) rfl (ii_ne_f (by rw [hs])) ?_
      refine iconstV X0.here hexec rfl 0 (hb hbytes d7) (by decide) ?_
      refine XS.istoreN X0.here hexec rfl (hb hbytes d8) rfl rfl ?_
      exact Steps.refl _)
    have loop : ∀ (r i : Nat), i + r = A.slots.size → (∀ j, j < i → yv A j = yv B j) → Steps p.tables e below (s₁.setTop (entryFrame m #[.ref a, .ref b] 3)) (s₁.setTop (mkF m 9 #[.val (.ref a), .val (.ref b), .val (.int (Int32.ofNat i))] [])) → ∃ (pc : Nat) (Ls : Array Slot) (v : Int32), (pc = 25 ∨ pc = 33) ∧ ((v = 1 ∧ EqC A B) ∨ (v = 0 ∧ ¬ EqC A B)) ∧ Steps p.tables e below (s₁.setTop (entryFrame m #[.ref a, .ref b] 3)) (s₁.setTop (mkF m pc Ls [.int v])) := by
      intro r
      induction r with
      | zero =>
        intro i hi he cl
        exact ⟨33, _, 1, Or.inr rfl, Or.inl ⟨rfl, hs, fun j hj => he j (by omega)⟩, cl.trans (by
          refine XS.iloadN X0.here hexec rfl (hb hbytes d9) rfl ?_
          refine XS.aloadN X0.here hexec rfl (hb hbytes d10) rfl rfl ?_
          refine X0.alen hexec hA0 rfl rfl (hb hbytes d11) ?_
          refine XS.icmpYes X0.here hexec rfl (pc0 := 12) rfl (hb hbytes d12) rfl (ii_ge_t (nlt32 (by omega) (by omega))) (by decide) rfl ?_
          refine iconstV X0.here hexec rfl 1 (hb hbytes d32) (by decide) ?_
          exact Steps.refl _)⟩
      | succ r ih =>
        intro i hi he cl
        have c4 : Steps p.tables e below (s₁.setTop (entryFrame m #[.ref a, .ref b] 3)) (s₁.setTop (mkF m 21 #[.val (.ref a), .val (.ref b), .val (.int (Int32.ofNat i))] [.int (yv B i), .int (yv A i)])) := cl.trans (by
          refine XS.iloadN X0.here hexec rfl (hb hbytes d9) rfl ?_
          refine XS.aloadN X0.here hexec rfl (hb hbytes d10) rfl rfl ?_
          refine X0.alen hexec hA0 rfl rfl (hb hbytes d11) ?_
          refine XS.icmpNo X0.here hexec rfl (hb hbytes d12) rfl (ii_ge_f (lt32 (by omega) (by omega))) ?_
          refine XS.aloadN X0.here hexec rfl (hb hbytes d15) rfl rfl ?_
          refine XS.iloadN X0.here hexec rfl (hb hbytes d16) rfl ?_
          refine X0.aget hexec hA0 rfl (yv_get hA tA (i := i) (by omega)) rfl rfl (hb hbytes d17) ?_
          refine XS.aloadN X0.here hexec rfl (hb hbytes d18) rfl rfl ?_
          refine XS.iloadN X0.here hexec rfl (hb hbytes d19) rfl ?_
          refine X0.aget hexec hB0 rfl (yv_get hB tB (i := i) (by omega)) rfl rfl (hb hbytes d20) ?_
          exact Steps.refl _)
        by_cases hv : yv A i = yv B i
        · have c5 : Steps p.tables e below (s₁.setTop (entryFrame m #[.ref a, .ref b] 3)) (s₁.setTop (mkF m 9 #[.val (.ref a), .val (.ref b), .val (.int (Int32.ofNat i + 1))] [])) := c4.trans (by
            refine XS.icmpYes X0.here hexec rfl (pc0 := 21) rfl (hb hbytes d21) rfl (ii_eq_t hv) (by decide) rfl ?_
            refine iincV X0.here hexec rfl 1 (hb hbytes d26) (by decide) rfl rfl ?_
            refine XS.goto X0.here hexec rfl (pc0 := 29) rfl (hb hbytes d29) (by decide) rfl ?_
            exact Steps.refl _)
          rw [succ32] at c5
          exact ih (i + 1) (by omega) (fun j hj => by
            by_cases e : j = i
            · rw [e]; exact hv
            · exact he j (by omega)) c5
        · exact ⟨25, _, 0, Or.inl rfl, Or.inr ⟨rfl, fun q => hv (q.2 i (by omega))⟩, c4.trans (by
            refine XS.icmpNo X0.here hexec rfl (hb hbytes d21) rfl (ii_eq_f hv) ?_
            refine iconstV X0.here hexec rfl 0 (hb hbytes d24) (by decide) ?_
            exact Steps.refl _)⟩
    obtain ⟨pc, Ls, v, hpc, hv, cz⟩ := loop A.slots.size 0 (by omega) (fun j hj => absurd hj (Nat.not_lt_zero j)) c3
    have nv : narrow .boolean (.int v) = .int v := by rcases hv with ⟨rfl, -⟩ | ⟨rfl, -⟩ <;> rfl
    rcases hpc with rfl | rfl
    · exact ⟨s₁, some (.int v), _, _, _, X0, rfl, rfl, rfl, (fun h => by cases h), ⟨v, rfl, hh0, hv⟩, fun fs hl => cz.trans (X0.ireturnOut hexec hret nv (Or.inr (Or.inl rfl)) (hb hbytes d25) hl)⟩
    · exact ⟨s₁, some (.int v), _, _, _, X0, rfl, rfl, rfl, (fun h => by cases h), ⟨v, rfl, hh0, hv⟩, fun fs hl => cz.trans (X0.ireturnOut hexec hret nv (Or.inr (Or.inl rfl)) (hb hbytes d33) hl)⟩
  · have c3 : Steps p.tables e below (s₁.setTop (entryFrame m #[.ref a, .ref b] 3)) (s₁.setTop (mkF m 35 #[.val (.ref a), .val (.ref b), .unset] [.int 0])) := c2.trans (by
      refine XS.icmpYes X0.here hexec rfl (pc0 := 4) rfl (hb hbytes d4) rfl (ii_ne_t (ne32 a31 b31 hs)) (by decide) rfl ?_
      refine iconstV X0.here hexec rfl 0 (hb hbytes d34) (by decide) ?_
      exact Steps.refl _)
    exact ⟨s₁, some (.int 0), _, _, _, X0, rfl, rfl, rfl, (fun h => by cases h), ⟨0, rfl, hh0, Or.inr ⟨rfl, fun q => hs q.1⟩⟩, fun fs hl => c3.trans (X0.ireturnOut hexec hret rfl (Or.inr (Or.inl rfl)) (hb hbytes d35) hl)⟩
end LEq
theorem Cod.ty {cd : Int32} {n : Nat} {f : Nat → Int32} {V : Cell} (h : Cod cd n f V) : Typed .byte V := fun i v hv => by
  have hi : i < V.slots.size := (Array.getElem?_eq_some_iff.mp hv).1
  rcases h with ⟨-, k1, k2⟩ | ⟨-, k1, k2, -⟩
  · rw [(k2 i (by omega)).1] at hv; cases hv; exact fits_lo8 _
  · rcases Nat.mod_two_eq_zero_or_one i with e | e
    · obtain ⟨j, rfl⟩ : ∃ j, i = 2 * j := ⟨i / 2, by omega⟩
      rw [(k2 j (by omega)).1] at hv; cases hv; exact fits_lo8 _
    · obtain ⟨j, rfl⟩ : ∃ j, i = 2 * j + 1 := ⟨i / 2, by omega⟩
      rw [(k2 j (by omega)).2] at hv; cases hv; exact fits_lo8 _
/-- the same text -/
def SameT (n : Nat) (f : Nat → Int32) (k : Nat) (g : Nat → Int32) : Prop := n = k ∧ ∀ j, j < n → f j = g j
theorem lo8_inj {x y : Int32} (h0 : ¬ x < 0) (h1 : ¬ 255 < x) (k0 : ¬ y < 0) (k1 : ¬ 255 < y) (h : lo8 x = lo8 y) : x = y := by
  rw [← lo8_mask h0 h1, ← lo8_mask k0 k1, h]
/-- arrays coded by one coder are equal just where the texts are -/
theorem Cod.eqv {cd : Int32} {n k : Nat} {f g : Nat → Int32} {V V' : Cell} (h : Cod cd n f V) (h' : Cod cd k g V') (hf : ∀ j, j < n → ¬ f j < 0 ∧ ¬ 65535 < f j) (hg : ∀ j, j < k → ¬ g j < 0 ∧ ¬ 65535 < g j) : EqC V V' ↔ SameT n f k g := by
  have yvv : ∀ {W : Cell} {i : Nat} {x : Int32}, W.slots[i]? = some (.int x) → yv W i = x := fun q => by unfold yv; rw [q]
  rcases h with ⟨rfl, k1, k2⟩ | ⟨rfl, k1, k2, -⟩
  · rcases h' with ⟨-, m1, m2⟩ | ⟨e, -⟩
    · constructor
      · rintro ⟨e1, e2⟩
        refine ⟨by omega, fun j hj => ?_⟩
        have q := e2 j (by omega)
        rw [yvv (k2 j hj).1, yvv (m2 j (by omega)).1] at q
        exact lo8_inj (hf j hj).1 (k2 j hj).2 (hg j (by omega)).1 (m2 j (by omega)).2 q
      · rintro ⟨rfl, e2⟩
        refine ⟨by omega, fun j hj => ?_⟩
        rw [yvv (k2 j (by omega)).1, yvv (m2 j (by omega)).1, e2 j (by omega)]
    · exact absurd e (by decide)
  · rcases h' with ⟨e, -⟩ | ⟨-, m1, m2, -⟩
    · exact absurd e (by decide)
    · constructor
      · rintro ⟨e1, e2⟩
        refine ⟨by omega, fun j hj => ?_⟩
        have q1 := e2 (2 * j) (by omega)
        have q2 := e2 (2 * j + 1) (by omega)
        rw [yvv (k2 j hj).1, yvv (m2 j (by omega)).1] at q1
        rw [yvv (k2 j hj).2, yvv (m2 j (by omega)).2] at q2
        rw [← pair_says (hf j hj).1 (hf j hj).2, ← pair_says (hg j (by omega)).1 (hg j (by omega)).2, q1, q2]
      · rintro ⟨rfl, e2⟩
        refine ⟨by omega, fun i hi => ?_⟩
        rcases Nat.mod_two_eq_zero_or_one i with e | e
        · obtain ⟨j, rfl⟩ : ∃ j, i = 2 * j := ⟨i / 2, by omega⟩
          rw [yvv (k2 j (by omega)).1, yvv (m2 j (by omega)).1, e2 j (by omega)]
        · obtain ⟨j, rfl⟩ : ∃ j, i = 2 * j + 1 := ⟨i / 2, by omega⟩
          rw [yvv (k2 j (by omega)).2, yvv (m2 j (by omega)).2, e2 j (by omega)]
/-- two codings differ: so do the texts -/
theorem Cod.dif {cd cd' : Int32} {n k : Nat} {f g : Nat → Int32} {V V' : Cell} (h : Cod cd n f V) (h' : Cod cd' k g V') (hne : ¬ cd = cd') : ¬ SameT n f k g := by
  rintro ⟨rfl, e⟩
  rcases h with ⟨rfl, -, k2⟩ | ⟨rfl, -, -, j, hj, hw⟩
  · rcases h' with ⟨rfl, -⟩ | ⟨-, -, -, j, hj, hw⟩
    · exact hne rfl
    · exact (k2 j hj).2 (by rw [e j hj]; exact hw)
  · rcases h' with ⟨-, -, m2⟩ | ⟨rfl, -⟩
    · exact (m2 j hj).2 (by rw [← e j hj]; exact hw)
    · exact hne rfl
/-- an object of exactly C is an instance of C -/
theorem cinst {p : Program} {l : Launch} {e : Env} {R : Room} {s : State} {m : MethodId} {args : Array Value} {below : List Frame} {meth : Method} {c : Code} {T : State} {locs : List Loc} {cells slots : Nat} (X : Stand p l e R s m args below meth c T locs cells slots) (hexec : p.tables.exec = Jvm.exec) {own C : String} {index : Nat} (hown : s.vm.findClass own = some m.cls) (hlink : (Cond.classLink own index C).before args s = true) {a : Addr} (hE : Exact C a T)
    {g : JFrame} (hg : g.method = m) {rest : List Value} (hstack : g.stack = .ref a :: rest) (hdg : decode c.code g.pc = .ok (.instanceof index, 3)) :
    ∃ T', Stand p l e R s m args below meth c T' locs cells slots ∧ T'.heap = T.heap ∧ ∀ target, Steps p.tables e below (T'.setTop { g with pc := g.pc + 3, stack := .int 1 :: rest }) target → Steps p.tables e below (T.setTop g) target := by
  obtain ⟨cB, h1, D, h2, h3, h4⟩ := hE
  have h1' : s.vm.findClass C = some cB := by rw [← X.warmed.alike.findClass]; exact h1
  obtain ⟨vm', X', st⟩ := X.instanceofYes hexec hown hlink h2 h4 h1' (by rw [h3]; exact Jvm.Free.SB.assignable_self _ _) hg hstack hdg
  exact ⟨_, X', rfl, st⟩
theorem cself {p : Program} {l : Launch} {e : Env} {R : Room} {s : State} {m : MethodId} {args : Array Value} {below : List Frame} {meth : Method} {c : Code} {T : State} {locs : List Loc} {cells slots : Nat} (X : Stand p l e R s m args below meth c T locs cells slots) (hexec : p.tables.exec = Jvm.exec) {own C : String} {index : Nat} (hown : s.vm.findClass own = some m.cls) (hlink : (Cond.classLink own index C).before args s = true) {a : Addr} (hE : Exact C a T)
    {g : JFrame} (hg : g.method = m) {rest : List Value} (hstack : g.stack = .ref a :: rest) (hdg : decode c.code g.pc = .ok (.checkcast index, 3)) :
    ∃ T', Stand p l e R s m args below meth c T' locs cells slots ∧ T'.heap = T.heap ∧ ∀ target, Steps p.tables e below (T'.setTop { g with pc := g.pc + 3, stack := .ref a :: rest }) target → Steps p.tables e below (T.setTop g) target := by
  obtain ⟨cB, h1, D, h2, h3, h4⟩ := hE
  have h1' : s.vm.findClass C = some cB := by rw [← X.warmed.alike.findClass]; exact h1
  obtain ⟨vm', X', st⟩ := X.checkcastYes hexec hown hlink h2 h4 h1' (by rw [h3]; exact Jvm.Free.SB.assignable_self _ _) hg hstack hdg
  exact ⟨_, X', rfl, fun t h => st t (by rw [← hstack] at h; exact h)⟩
namespace SEq
def yN : MethodName := ⟨"java/lang/String", "equals", "(Ljava/lang/Object;)Z"⟩
abbrev yB : ByteArray := jdk_42_method_66_code
theorem d0 : decode yB 0 = .ok (.aload_n 0, 1) := by decide +kernel
theorem d1 : decode yB 1 = .ok (.aload_n 1, 1) := by decide +kernel
theorem d2 : decode yB 2 = .ok (.if_acmp (.ne) 5, 3) := by decide +kernel
theorem d5 : decode yB 5 = .ok (.iconst 1, 1) := by decide +kernel
theorem d6 : decode yB 6 = .ok (.ireturn, 1) := by decide +kernel
theorem d7 : decode yB 7 = .ok (.aload_n 1, 1) := by decide +kernel
theorem d8 : decode yB 8 = .ok (.instanceof 10, 3) := by decide +kernel
theorem d11 : decode yB 11 = .ok (.ifCond (.eq) 43, 3) := by decide +kernel
theorem d14 : decode yB 14 = .ok (.aload_n 1, 1) := by decide +kernel
theorem d15 : decode yB 15 = .ok (.checkcast 10, 3) := by decide +kernel
theorem d18 : decode yB 18 = .ok (.astore_n 2, 1) := by decide +kernel
theorem d19 : decode yB 19 = .ok (.getstatic 38, 3) := by decide +kernel
theorem d22 : decode yB 22 = .ok (.ifCond (.eq) 14, 3) := by decide +kernel
theorem d25 : decode yB 25 = .ok (.aload_n 0, 1) := by decide +kernel
theorem d26 : decode yB 26 = .ok (.getfield 15, 3) := by decide +kernel
theorem d29 : decode yB 29 = .ok (.aload_n 2, 1) := by decide +kernel
theorem d30 : decode yB 30 = .ok (.getfield 15, 3) := by decide +kernel
theorem d33 : decode yB 33 = .ok (.if_icmp (.ne) 21, 3) := by decide +kernel
theorem d36 : decode yB 36 = .ok (.aload_n 0, 1) := by decide +kernel
theorem d37 : decode yB 37 = .ok (.getfield 9, 3) := by decide +kernel
theorem d40 : decode yB 40 = .ok (.aload_n 2, 1) := by decide +kernel
theorem d41 : decode yB 41 = .ok (.getfield 9, 3) := by decide +kernel
theorem d44 : decode yB 44 = .ok (.invokestatic 541, 3) := by decide +kernel
theorem d47 : decode yB 47 = .ok (.ifCond (.eq) 7, 3) := by decide +kernel
theorem d50 : decode yB 50 = .ok (.iconst 1, 1) := by decide +kernel
theorem d51 : decode yB 51 = .ok (.goto 4, 3) := by decide +kernel
theorem d54 : decode yB 54 = .ok (.iconst 0, 1) := by decide +kernel
theorem d55 : decode yB 55 = .ok (.ireturn, 1) := by decide +kernel
def site : List Cond := [.classLink "java/lang/String" 10 "java/lang/String", .fieldLink "java/lang/String" 38 "java/lang/String" "COMPACT_STRINGS" "Z", .fieldLink "java/lang/String" 15 "java/lang/String" "coder" "B", .fieldLink "java/lang/String" 9 "java/lang/String" "value" "[B", LEq.tab] ++ staticW "java/lang/String" 541 LEq.yN
def tab : Cond := tabOf yN yB 3 (some .boolean) site
def P (x t : Addr) (V : Cell) (cd : Int32) (n : Nat) (f : Nat → Int32) (y t' : Addr) (V' : Cell) (cd' : Int32) (k : Nat) (g : Nat → Int32) (z : Int32) (args : Array Value) (s : State) : Prop := args = #[.ref x, .ref y] ∧ Txt x t V cd n f s ∧ Txt y t' V' cd' k g s ∧ StaticIs s "java/lang/String" "COMPACT_STRINGS" "Z" (.int z) ∧ ¬ z = 0
/-- equals(Object) of two Strings: whether the texts are the same -/
theorem law (l : Launch) (x t : Addr) (V : Cell) (cd : Int32) (n : Nat) (f : Nat → Int32) (y t' : Addr) (V' : Cell) (cd' : Int32) (k : Nat) (g : Nat → Int32) (z : Int32) : Law l yN 2 1 1 14 yB 3 (some .boolean) site (P x t V cd n f y t' V' cd' k g z) (Says01 (SameT n f k g)) [] 0 0 := by
  refine Law.of_walk (plainFor_of_name (by decide +kernel)) (by decide +kernel) (by decide +kernel) (by decide) (fun _ _ h => by rw [h.1]; rfl) (fun _ U U' hal hh h => ⟨h.1, h.2.1.mv hal hh, h.2.2.1.mv hal hh, h.2.2.2.1.there hal hh, h.2.2.2.2⟩) (fun r U U' V V' h1 hal h2 h => Says01.mv r U U' V V' h1 hal h2 h) ?_
  intro p e s m args below meth c s₁ X0 hexec hbytes hml hret hlk hnm hown hh0 W hP
  obtain ⟨rfl, hx, hy, s1, hz⟩ := hP
  have c1 : Steps p.tables e below (s₁.setTop (entryFrame m #[.ref x, .ref y] 3)) (s₁.setTop (mkF m 2 #[.val (.ref x), .val (.ref y), .unset] [.ref y, .ref x])) := Steps.trans (entry rfl) (by
    show Steps p.tables e below (s₁.setTop (mkF m 0 #[.val (.ref x), .val (.ref y), .unset] [])) _
    refine XS.aloadN X0.here hexec rfl (hb hbytes d0) rfl rfl ?_
    refine XS.aloadN X0.here hexec rfl (hb hbytes d1) rfl rfl ?_
    exact Steps.refl _)
  by_cases hxy : x = y
  · have c2 : Steps p.tables e below (s₁.setTop (entryFrame m #[.ref x, .ref y] 3)) (s₁.setTop (mkF m 6 #[.val (.ref x), .val (.ref y), .unset] [.int 1])) := c1.trans (by
      refine acmpNo X0.here hexec rfl (hb hbytes d2) rfl rfl rfl (by simp [acmp, hxy]) ?_
      refine iconstV X0.here hexec rfl 1 (hb hbytes d5) (by decide) ?_
      exact Steps.refl _)
    subst hxy
    have ec : cd = cd' := by
      obtain ⟨D, fd, a1, a2, a3⟩ := hx.2.2.1
      obtain ⟨D', fd', b1, b2, b3⟩ := hy.2.2.1
      cases a1.symm.trans b1
      obtain ⟨q1, q2, q3, q4⟩ := a2.1
      obtain ⟨r1, r2, r3, r4⟩ := b2.1
      cases q4.symm.trans r4
      cases a3.symm.trans b3; rfl
    have et : t = t' := by
      obtain ⟨D, fd, a1, a2, a3⟩ := hx.2.1
      obtain ⟨D', fd', b1, b2, b3⟩ := hy.2.1
      cases a1.symm.trans b1
      obtain ⟨q1, q2, q3, q4⟩ := a2.1
      obtain ⟨r1, r2, r3, r4⟩ := b2.1
      cases q4.symm.trans r4
      cases a3.symm.trans b3; rfl
    subst ec et
    have ev : V = V' := by cases hx.2.2.2.1.1.symm.trans hy.2.2.2.1.1; rfl
    subst ev
    have hs : SameT n f k g := (Cod.eqv hx.2.2.2.2.1 hy.2.2.2.2.1 hx.2.2.2.2.2 hy.2.2.2.2.2).mp ⟨rfl, fun _ _ => rfl⟩
    exact ⟨s₁, some (.int 1), _, _, _, X0, rfl, rfl, rfl, (fun h => by cases h), ⟨1, rfl, hh0, Or.inl ⟨rfl, hs⟩⟩, fun fs hl => c2.trans (X0.ireturnOut hexec hret rfl (Or.inr (Or.inl rfl)) (hb hbytes d6) hl)⟩
  · have c2 : Steps p.tables e below (s₁.setTop (entryFrame m #[.ref x, .ref y] 3)) (s₁.setTop (mkF m 8 #[.val (.ref x), .val (.ref y), .unset] [.ref y])) := c1.trans (by
      refine acmpYes X0.here hexec rfl (pc0 := 2) rfl (hb hbytes d2) rfl rfl rfl (by simp [acmp, hxy]) (by decide) rfl ?_
      refine XS.aloadN X0.here hexec rfl (hb hbytes d7) rfl rfl ?_
      exact Steps.refl _)
    obtain ⟨T3, X3, q3, st3⟩ := cinst X0 hexec hown (wk W (.classLink "java/lang/String" 10 "java/lang/String")) (hy.mv X0.warmed.alike hh0).1 (g := (mkF m 8 #[.val (.ref x), .val (.ref y), .unset] [.ref y])) rfl (rest := []) rfl (hb hbytes d8)
    have hh3 := q3.trans hh0
    have c4 : Steps p.tables e below (s₁.setTop (entryFrame m #[.ref x, .ref y] 3)) (T3.setTop (mkF m 15 #[.val (.ref x), .val (.ref y), .unset] [.ref y])) := (c2.trans (st3 _ (Steps.refl _))).trans (by
      refine XS.ifNo X3.here hexec rfl (hb hbytes d11) rfl (i0_eq_f (by decide)) ?_
      refine XS.aloadN X3.here hexec rfl (hb hbytes d14) rfl rfl ?_
      exact Steps.refl _)
    obtain ⟨T5, X5, q5, st5⟩ := cself X3 hexec hown (wk W (.classLink "java/lang/String" 10 "java/lang/String")) (hy.mv X3.warmed.alike hh3).1 (g := (mkF m 15 #[.val (.ref x), .val (.ref y), .unset] [.ref y])) rfl (rest := []) rfl (hb hbytes d15)
    have hh5 := q5.trans hh3
    have c6 : Steps p.tables e below (s₁.setTop (entryFrame m #[.ref x, .ref y] 3)) (T5.setTop (mkF m 19 #[.val (.ref x), .val (.ref y), .val (.ref y)] [])) := (c4.trans (st5 _ (Steps.refl _))).trans (by
      refine XS.astoreN X5.here hexec rfl (hb hbytes d18) rfl rfl rfl ?_
      exact Steps.refl _)
    obtain ⟨T7, X7, q7, st7⟩ := X5.sget hexec hown (wk W (.fieldLink "java/lang/String" 38 "java/lang/String" "COMPACT_STRINGS" "Z")) s1 (fun _ _ h => by rw [hh5]; exact h) (g := (mkF m 19 #[.val (.ref x), .val (.ref y), .val (.ref y)] [])) rfl (hb hbytes d19)
    have hh7 := q7.trans hh5
    have c8 : Steps p.tables e below (s₁.setTop (entryFrame m #[.ref x, .ref y] 3)) (T7.setTop (mkF m 26 #[.val (.ref x), .val (.ref y), .val (.ref y)] [.ref x])) := (c6.trans (st7 _ (Steps.refl _))).trans (by
      refine XS.ifNo X7.here hexec rfl (hb hbytes d22) rfl (i0_eq_f hz) ?_
      refine XS.aloadN X7.here hexec rfl (hb hbytes d25) rfl rfl ?_
      exact Steps.refl _)
    obtain ⟨T9, X9, q9, st9⟩ := X7.hget hexec hown (wk W (.fieldLink "java/lang/String" 15 "java/lang/String" "coder" "B")) (hx.mv X7.warmed.alike hh7).2.2.1 (g := (mkF m 26 #[.val (.ref x), .val (.ref y), .val (.ref y)] [.ref x])) rfl (rest := []) rfl (hb hbytes d26)
    have hh9 := q9.trans hh7
    have c10 : Steps p.tables e below (s₁.setTop (entryFrame m #[.ref x, .ref y] 3)) (T9.setTop (mkF m 30 #[.val (.ref x), .val (.ref y), .val (.ref y)] [.ref y, .int cd])) := (c8.trans (st9 _ (Steps.refl _))).trans (by
      refine XS.aloadN X9.here hexec rfl (hb hbytes d29) rfl rfl ?_
      exact Steps.refl _)
    obtain ⟨T11, X11, q11, st11⟩ := X9.hget hexec hown (wk W (.fieldLink "java/lang/String" 15 "java/lang/String" "coder" "B")) (hy.mv X9.warmed.alike hh9).2.2.1 (g := (mkF m 30 #[.val (.ref x), .val (.ref y), .val (.ref y)] [.ref y, .int cd])) rfl (rest := [.int cd]) rfl (hb hbytes d30)
    have hh11 := q11.trans hh9
    have c12 : Steps p.tables e below (s₁.setTop (entryFrame m #[.ref x, .ref y] 3)) (T11.setTop (mkF m 33 #[.val (.ref x), .val (.ref y), .val (.ref y)] [.int cd', .int cd])) := c10.trans (st11 _ (Steps.refl _))
    by_cases hcd : cd = cd'
    · subst hcd
      have c13 : Steps p.tables e below (s₁.setTop (entryFrame m #[.ref x, .ref y] 3)) (T11.setTop (mkF m 37 #[.val (.ref x), .val (.ref y), .val (.ref y)] [.ref x])) := c12.trans (by
        refine XS.icmpNo X11.here hexec rfl (hb hbytes d33) rfl (ii_ne_f rfl) ?_
        refine XS.aloadN X11.here hexec rfl (hb hbytes d36) rfl rfl ?_
        exact Steps.refl _)
      obtain ⟨T14, X14, q14, st14⟩ := X11.hget hexec hown (wk W (.fieldLink "java/lang/String" 9 "java/lang/String" "value" "[B")) (hx.mv X11.warmed.alike hh11).2.1 (g := (mkF m 37 #[.val (.ref x), .val (.ref y), .val (.ref y)] [.ref x])) rfl (rest := []) rfl (hb hbytes d37)
      have hh14 := q14.trans hh11
      have c15 : Steps p.tables e below (s₁.setTop (entryFrame m #[.ref x, .ref y] 3)) (T14.setTop (mkF m 41 #[.val (.ref x), .val (.ref y), .val (.ref y)] [.ref y, .ref t])) := (c13.trans (st14 _ (Steps.refl _))).trans (by
        refine XS.aloadN X14.here hexec rfl (hb hbytes d40) rfl rfl ?_
        exact Steps.refl _)
      obtain ⟨T16, X16, q16, st16⟩ := X14.hget hexec hown (wk W (.fieldLink "java/lang/String" 9 "java/lang/String" "value" "[B")) (hy.mv X14.warmed.alike hh14).2.1 (g := (mkF m 41 #[.val (.ref x), .val (.ref y), .val (.ref y)] [.ref y, .ref t])) rfl (rest := [.ref t]) rfl (hb hbytes d41)
      have hh16 := q16.trans hh14
      have c17 : Steps p.tables e below (s₁.setTop (entryFrame m #[.ref x, .ref y] 3)) (T16.setTop (mkF m 44 #[.val (.ref x), .val (.ref y), .val (.ref y)] [.ref t', .ref t])) := c15.trans (st16 _ (Steps.refl _))
      obtain ⟨v18, T18, X18, E18, g18⟩ := X16.callS hexec (LEq.law l t V t' V') hown (wks W (staticW "java/lang/String" 541 LEq.yN)) (wk W LEq.tab) (W := 0) (Nat.le_of_ble_eq_true rfl) (Nat.le_of_ble_eq_true rfl) (Nat.le_refl _) (Nat.le_refl _) (g := (mkF m 44 #[.val (.ref x), .val (.ref y), .val (.ref y)] [.ref t', .ref t])) rfl (by rw [hml]; rfl) c17 (argsL := [.ref t, .ref t']) (rest := []) rfl rfl (by show 2 * 0 + 0 ≤ _; decide) (hb hbytes d44) (⟨rfl, hx.2.2.2.1.mv X16.warmed.alike hh16, hx.2.2.2.2.1.ty, hy.2.2.2.1.mv X16.warmed.alike hh16, hy.2.2.2.2.1.ty⟩)
      obtain ⟨v, rfl, q18, hv⟩ := E18
      have iff := Cod.eqv hx.2.2.2.2.1 hy.2.2.2.2.1 hx.2.2.2.2.2 hy.2.2.2.2.2
      rcases hv with ⟨rfl, he⟩ | ⟨rfl, he⟩
      · have c19 : Steps p.tables e below (s₁.setTop (entryFrame m #[.ref x, .ref y] 3)) (T18.setTop (mkF m 55 #[.val (.ref x), .val (.ref y), .val (.ref y)] [.int 1])) := Steps.trans g18 (by
          refine XS.ifNo X18.here hexec rfl (hb hbytes d47) rfl (i0_eq_f (by decide)) ?_
          refine iconstV X18.here hexec rfl 1 (hb hbytes d50) (by decide) ?_
          refine XS.goto X18.here hexec rfl (pc0 := 51) rfl (hb hbytes d51) (by decide) rfl ?_
          exact Steps.refl _)
        exact ⟨T18, some (.int 1), _, _, _, X18, rfl, rfl, rfl, (fun h => by cases h), ⟨1, rfl, q18.trans hh16, Or.inl ⟨rfl, iff.mp he⟩⟩, fun fs hl => c19.trans (X18.ireturnOut hexec hret rfl (Or.inr (Or.inl rfl)) (hb hbytes d55) hl)⟩
      · have c19 : Steps p.tables e below (s₁.setTop (entryFrame m #[.ref x, .ref y] 3)) (T18.setTop (mkF m 55 #[.val (.ref x), .val (.ref y), .val (.ref y)] [.int 0])) := Steps.trans g18 (by
          refine XS.ifYes X18.here hexec rfl (pc0 := 47) rfl (hb hbytes d47) rfl (i0_eq_t rfl) (by decide) rfl ?_
          refine iconstV X18.here hexec rfl 0 (hb hbytes d54) (by decide) ?_
          exact Steps.refl _)
        exact ⟨T18, some (.int 0), _, _, _, X18, rfl, rfl, rfl, (fun h => by cases h), ⟨0, rfl, q18.trans hh16, Or.inr ⟨rfl, fun q => he (iff.mpr q)⟩⟩, fun fs hl => c19.trans (X18.ireturnOut hexec hret rfl (Or.inr (Or.inl rfl)) (hb hbytes d55) hl)⟩
    · have c13 : Steps p.tables e below (s₁.setTop (entryFrame m #[.ref x, .ref y] 3)) (T11.setTop (mkF m 55 #[.val (.ref x), .val (.ref y), .val (.ref y)] [.int 0])) := c12.trans (by
        refine XS.icmpYes X11.here hexec rfl (pc0 := 33) rfl (hb hbytes d33) rfl (ii_ne_t hcd) (by decide) rfl ?_
        refine iconstV X11.here hexec rfl 0 (hb hbytes d54) (by decide) ?_
        exact Steps.refl _)
      exact ⟨T11, some (.int 0), _, _, _, X11, rfl, rfl, rfl, (fun h => by cases h), ⟨0, rfl, hh11, Or.inr ⟨rfl, Cod.dif hx.2.2.2.2.1 hy.2.2.2.2.1 hcd⟩⟩, fun fs hl => c13.trans (X11.ireturnOut hexec hret rfl (Or.inr (Or.inl rfl)) (hb hbytes d55) hl)⟩
theorem pays {l : Launch} {R : Room} {p : Program} {e : Env} {below : List Frame} {s : State} {sargs : Array Value} {len W : Nat} (x t : Addr) (V : Cell) (cd : Int32) (n : Nat) (f : Nat → Int32) (y t' : Addr) (V' : Cell) (cd' : Int32) (k : Nat) (g : Nat → Int32) (z : Int32) (htab : tab.before sargs s = true) (hfr : 2 ≤ R.frames) (hlo : W + 28 ≤ R.locals) :
    Back l R p e below s sargs yN len W (fun A₁ a₁ => A₁.cells + 0 ≤ R.cells ∧ A₁.slots + 0 ≤ R.slots ∧ P x t V cd n f y t' V' cd' k g z a₁ A₁.U) (fun A₁ _ v₁ B₁ => Says01 (SameT n f k g) v₁ A₁.U B₁.U ∧ B₁.locs = A₁.locs ++ [] ∧ B₁.cells = A₁.cells + 0 ∧ B₁.slots = A₁.slots + 0) :=
  (law l x t V cd n f y t' V' cd' k g z).pays htab hfr (by omega)
end SEq
end StrChars
namespace StrChars.Road
open Jvm Sem ClassFile Op Lib Jvm.Stand Jvm.Free Jvm.Free.XT
open Jvm.Lib.Cold (StaticIs)
/-- the words of String.equals(Object) -/
abbrev wordsEq : List Jvm.Cond := [.code SEq.yN SEq.yB 3 (some .boolean), .initialized ST, .classLink ST 10 ST, .fieldLink ST 38 ST "COMPACT_STRINGS" "Z", .fieldLink ST 15 ST "coder" "B", .fieldLink ST 9 ST "value" "[B", .methodLink ST 541 LEq.yN, .static LEq.yN, .code LEq.yN LEq.yB 3 (some .boolean), .initialized "java/lang/StringLatin1"]
theorem tabEq_of {a : Array Value} {s : State} (h : ∀ w ∈ wordsEq, w.before a s = true) : SEq.tab.before a s = true := by
  have hl : LEq.tab.before a s = true := unparts (wk h (.code LEq.yN LEq.yB 3 (some .boolean))) (wks h (.initialized LEq.yN.cls :: LEq.site))
  have q := consq hl h
  exact unparts (wk q (.code SEq.yN SEq.yB 3 (some .boolean))) (wks q (.initialized SEq.yN.cls :: SEq.site))
theorem movedEq {Z s : State} {a0 args : Array Value} (hZ : Z.Warmed39 s.vm) (hw : ∀ d ∈ wordsEq, d.before a0 Z = true) : ∀ d ∈ wordsEq, d.before args s = true := fun d hd => by
  have t : ∀ d ∈ wordsEq, (d.onTables && d.keepsFace) = true := by decide +kernel
  exact RoadKit.mv hZ (hw d hd) (t d hd)
/-- the road's facts of a String, as the laws ask it -/
theorem txt_of {Z U : State} {a0 : Array Value} {kI : Nat} (wi : (Jvm.Cond.instantiable ST kI).before a0 Z = true) (al : Z.vm.Alike U.vm) {x t : Addr} {kb : ClassId} {cs : List Int32} {cd N2 : Int32} {vs : List Value} (E : RoadKit.Exa Z U.heap x ST) (V : RoadKit.Fld Z U.heap x ST "value" "[B" (.ref t)) (C : RoadKit.Fld Z U.heap x ST "coder" "B" (.int cd)) (K : RoadKit.Arv Z U.heap t kb .byte N2 vs (.int 0)) (hc : CodA cs cd N2 vs) (hb : ∀ c ∈ cs, ¬ c < 0 ∧ ¬ (65535 : Int32) < c) (l2 : cs.length ≤ 4000) :
    ∃ A, Txt x t A cd cs.length (fun j => cs.getD j 0) U := by
  obtain ⟨A, K1, K2, K3, K4, K5, K6⟩ := K
  have hcod := hc.cod (by omega) K3 K5
  obtain ⟨D, fV, fC, hB, F1, F2, g1, g2, -, -⟩ := strObj wi al E V C
  exact ⟨A, ⟨_, hB.2.2.1, D, hB.1, rfl, by cases q : D.vm <;> first | rfl | exact absurd q (hB.2.1.2 _)⟩, Has.of hB F1 g1, Has.of hB F2 g2, ⟨K1.1, State.isArrayOf_alike al K1.2.1, K1.2.2, by rcases hcod with ⟨-, q, -⟩ | ⟨-, q, -⟩ <;> omega⟩, hcod, fun j hj => by
    have e : cs.getD j 0 = cs[j] := by simp [List.getD_eq_getElem?_getD, hj]
    show ¬ cs.getD j 0 < 0 ∧ ¬ 65535 < cs.getD j 0
    rw [e]; exact hb _ (List.getElem_mem _)⟩
theorem same_list (cs ds : List Int32) : SameT cs.length (fun j => cs.getD j 0) ds.length (fun j => ds.getD j 0) ↔ cs = ds := by
  constructor
  · rintro ⟨e, q⟩
    refine List.ext_getElem e fun j h1 h2 => ?_
    have := q j h1
    simpa [List.getD_eq_getElem?_getD, h1, h2] using this
  · rintro rfl
    exact ⟨rfl, fun _ _ => rfl⟩
/-- **equals(Object) OF TWO SUCH STRINGS**: 1 just where the chars are the same -/
theorem eqW {p : Program} {l : Launch} {e : Env} {R : Room} {s : State} {args : Array Value} {below : List Frame} {len W : Nat} {Z : State} {a0 : Array Value} {h : Heap} (hZ : Z.Warmed39 s.vm) (hw : ∀ d ∈ wordsEq, d.before a0 Z = true) {kI : Nat} (wi : (Jvm.Cond.instantiable ST kI).before a0 Z = true)
    {x t : Addr} {kb : ClassId} {cs : List Int32} {cd N2 : Int32} {vs : List Value} (E : RoadKit.Exa Z h x ST) (V : RoadKit.Fld Z h x ST "value" "[B" (.ref t)) (C : RoadKit.Fld Z h x ST "coder" "B" (.int cd)) (K : RoadKit.Arv Z h t kb .byte N2 vs (.int 0)) (hc : CodA cs cd N2 vs) (hb : ∀ c ∈ cs, ¬ c < 0 ∧ ¬ (65535 : Int32) < c) (l2 : cs.length ≤ 4000)
    {y t' : Addr} {kb' : ClassId} {ds : List Int32} {cd' N2' : Int32} {vs' : List Value} (E' : RoadKit.Exa Z h y ST) (V' : RoadKit.Fld Z h y ST "value" "[B" (.ref t')) (C' : RoadKit.Fld Z h y ST "coder" "B" (.int cd')) (K' : RoadKit.Arv Z h t' kb' .byte N2' vs' (.int 0)) (hc' : CodA ds cd' N2' vs') (hb' : ∀ c ∈ ds, ¬ c < 0 ∧ ¬ (65535 : Int32) < c) (l2' : ds.length ≤ 4000)
    {z : Int32} (S : RoadKit.Sta Z h ST "COMPACT_STRINGS" "Z" (.int z)) (hz : ¬ z = 0) (hfr : 2 ≤ R.frames) (hlo : W + 28 ≤ R.locals) :
    Back l R p e below s args (⟨"java/lang/String", "equals", "(Ljava/lang/Object;)Z"⟩ : MethodName) len W (fun P a => a = #[.ref x, .ref y] ∧ P.U.heap = h ∧ P.cells + 0 ≤ R.cells ∧ P.slots + 0 ≤ R.slots)
      (fun P _ v B => ∃ L, (((v = some (.int 1) ∧ cs = ds) ∨ (v = some (.int 0) ∧ ¬ cs = ds)) ∧ L = [] ∧ B.U.heap = h) ∧ B.locs = P.locs ++ L ∧ B.cells = P.cells + 0 ∧ B.slots = P.slots + 0) := by
  intro m meth c P g ig mk a X hg hsize hdg hW hn hp'
  obtain ⟨rfl, rfl, r1, r2⟩ := hp'
  have al : Z.vm.Alike P.U.vm := hZ.alike.trans X.warmed.alike
  obtain ⟨A, hx⟩ := txt_of wi al E V C K hc hb l2
  obtain ⟨A', hy⟩ := txt_of wi al E' V' C' K' hc' hb' l2'
  obtain ⟨v, B, X', ⟨⟨w, hv, hh, hq⟩, hl, hk, hs⟩, st⟩ := SEq.pays x t A cd cs.length (fun j => cs.getD j 0) y t' A' cd' ds.length (fun j => ds.getD j 0) z (tabEq_of (movedEq hZ hw)) hfr hlo m meth c P g ig mk _ X hg hsize hdg hW hn ⟨r1, r2, rfl, hx, hy, sta_is al S, hz⟩
  refine ⟨v, B, X', ⟨[], ⟨?_, rfl, hh⟩, hl, hk, hs⟩, st⟩
  rcases hq with ⟨rfl, q⟩ | ⟨rfl, q⟩
  · exact Or.inl ⟨hv, (same_list cs ds).mp q⟩
  · exact Or.inr ⟨hv, fun e => q ((same_list cs ds).mpr e)⟩
end StrChars.Road
namespace StrChars.Road
open Jvm Sem ClassFile Op Lib Jvm.Stand Jvm.Free Jvm.Free.XT
open Jvm.Lib.Cold (StaticIs)
/-- what backV says of its String, as the contracts of this text ask it: cs's low bytes, coder 0 -/
theorem codOf {cs : List Int32} {n : Nat} (hn : cs.length = n) (hb : ∀ c ∈ cs, ¬ 255 < c) : CodA cs 0 (Int32.ofNat n) ((cs.map lo8).map Value.int) := Or.inl ⟨rfl, by rw [hn], by simp [List.map_map, Function.comp_def], hb⟩
end StrChars.Road
end Jvm.Pilot.@@N@@
namespace Jvm.Pilot.@@N@@
open Jvm Jvm.ClassFile Sem Op Lib Jvm.Free Jvm.Stand Jvm.LawKit Jvm.RoadKit Jvm.OwnKit Bundle Jvm.Pilot.@@N@@.Jvm.D
def Ev (Z : State) (a0 : Array Value) : Prop := (∀ d ∈ tables_1, d.before a0 Z = true) ∧ (∃ z : Int32, Sta Z Z.heap "java/lang/String" "COMPACT_STRINGS" "Z" (.int z) ∧ ¬ z = 0) ∧ (∃ fm : Value, Sta Z Z.heap "jdk/internal/util/Preconditions" "SIOOBE_FORMATTER" "Ljava/util/function/BiFunction;" fm ∧ fm.isRef = true)
theorem tw0 {Z : State} {a0 : Array Value} (hw : ∀ d ∈ tables_1, d.before a0 Z = true) : (Jvm.Cond.classLink "com/example/hecate/hecate/HolderEqualsPinLaw" (29 : Nat) "com/example/hecate/hecate/Holder").before a0 Z = true := hw _ (List.mem_of_getElem? (i := 0) rfl)
theorem tw1 {Z : State} {a0 : Array Value} (hw : ∀ d ∈ tables_1, d.before a0 Z = true) : (Jvm.Cond.instantiable "com/example/hecate/hecate/Holder" (2 : Nat)).before a0 Z = true := hw _ (List.mem_of_getElem? (i := 1) rfl)
theorem tw2 {Z : State} {a0 : Array Value} (hw : ∀ d ∈ tables_1, d.before a0 Z = true) : (Jvm.Cond.initialized "com/example/hecate/hecate/Holder").before a0 Z = true := hw _ (List.mem_of_getElem? (i := 2) rfl)
theorem tw3 {Z : State} {a0 : Array Value} (hw : ∀ d ∈ tables_1, d.before a0 Z = true) : (Jvm.Cond.methodLink "com/example/hecate/hecate/HolderEqualsPinLaw" (31 : Nat) ({ cls := "com/example/hecate/hecate/HolderEqualsPinLaw", name := "mk", desc := "(I)Ljava/lang/String;" } : Jvm.MethodName)).before a0 Z = true := hw _ (List.mem_of_getElem? (i := 3) rfl)
theorem tw4 {Z : State} {a0 : Array Value} (hw : ∀ d ∈ tables_1, d.before a0 Z = true) : (Jvm.Cond.static ({ cls := "com/example/hecate/hecate/HolderEqualsPinLaw", name := "mk", desc := "(I)Ljava/lang/String;" } : Jvm.MethodName)).before a0 Z = true := hw _ (List.mem_of_getElem? (i := 4) rfl)
theorem tw5 {Z : State} {a0 : Array Value} (hw : ∀ d ∈ tables_1, d.before a0 Z = true) : (Jvm.Cond.initialized "com/example/hecate/hecate/HolderEqualsPinLaw").before a0 Z = true := hw _ (List.mem_of_getElem? (i := 5) rfl)
theorem tw6 {Z : State} {a0 : Array Value} (hw : ∀ d ∈ tables_1, d.before a0 Z = true) : (Jvm.Cond.code ({ cls := "com/example/hecate/hecate/HolderEqualsPinLaw", name := "mk", desc := "(I)Ljava/lang/String;" } : Jvm.MethodName) method_5_code (3 : Nat) (Option.some (Jvm.ClassFile.FieldType.object "java/lang/String"))).before a0 Z = true := hw _ (List.mem_of_getElem? (i := 6) rfl)
theorem tw7 {Z : State} {a0 : Array Value} (hw : ∀ d ∈ tables_1, d.before a0 Z = true) : (Jvm.Cond.methodLink "com/example/hecate/hecate/HolderEqualsPinLaw" (7 : Nat) ({ cls := "com/example/hecate/hecate/HolderEqualsPinLaw", name := "len", desc := "(I)I" } : Jvm.MethodName)).before a0 Z = true := hw _ (List.mem_of_getElem? (i := 7) rfl)
theorem tw8 {Z : State} {a0 : Array Value} (hw : ∀ d ∈ tables_1, d.before a0 Z = true) : (Jvm.Cond.static ({ cls := "com/example/hecate/hecate/HolderEqualsPinLaw", name := "len", desc := "(I)I" } : Jvm.MethodName)).before a0 Z = true := hw _ (List.mem_of_getElem? (i := 8) rfl)
theorem tw9 {Z : State} {a0 : Array Value} (hw : ∀ d ∈ tables_1, d.before a0 Z = true) : (Jvm.Cond.code ({ cls := "com/example/hecate/hecate/HolderEqualsPinLaw", name := "len", desc := "(I)I" } : Jvm.MethodName) method_2_code (1 : Nat) (Option.some Jvm.ClassFile.FieldType.int)).before a0 Z = true := hw _ (List.mem_of_getElem? (i := 9) rfl)
theorem tw10 {Z : State} {a0 : Array Value} (hw : ∀ d ∈ tables_1, d.before a0 Z = true) : (Jvm.Cond.classLink "com/example/hecate/hecate/HolderEqualsPinLaw" (13 : Nat) "java/lang/String").before a0 Z = true := hw _ (List.mem_of_getElem? (i := 10) rfl)
theorem tw11 {Z : State} {a0 : Array Value} (hw : ∀ d ∈ tables_1, d.before a0 Z = true) : (Jvm.Cond.instantiable "java/lang/String" (4 : Nat)).before a0 Z = true := hw _ (List.mem_of_getElem? (i := 11) rfl)
theorem tw12 {Z : State} {a0 : Array Value} (hw : ∀ d ∈ tables_1, d.before a0 Z = true) : (Jvm.Cond.initialized "java/lang/String").before a0 Z = true := hw _ (List.mem_of_getElem? (i := 12) rfl)
theorem tw13 {Z : State} {a0 : Array Value} (hw : ∀ d ∈ tables_1, d.before a0 Z = true) : (Jvm.Cond.arrayClass Jvm.ClassFile.FieldType.char).before a0 Z = true := hw _ (List.mem_of_getElem? (i := 13) rfl)
theorem tw14 {Z : State} {a0 : Array Value} (hw : ∀ d ∈ tables_1, d.before a0 Z = true) : (Jvm.Cond.methodLink "com/example/hecate/hecate/HolderEqualsPinLaw" (15 : Nat) ({ cls := "java/lang/String", name := "<init>", desc := "([C)V" } : Jvm.MethodName)).before a0 Z = true := hw _ (List.mem_of_getElem? (i := 14) rfl)
theorem tw15 {Z : State} {a0 : Array Value} (hw : ∀ d ∈ tables_1, d.before a0 Z = true) : (Jvm.Cond.instanceMethod ({ cls := "java/lang/String", name := "<init>", desc := "([C)V" } : Jvm.MethodName)).before a0 Z = true := hw _ (List.mem_of_getElem? (i := 15) rfl)
theorem tw16 {Z : State} {a0 : Array Value} (hw : ∀ d ∈ tables_1, d.before a0 Z = true) : (Jvm.Cond.code ({ cls := "java/lang/String", name := "<init>", desc := "([C)V" } : Jvm.MethodName) jdk_42_method_3_code (2 : Nat) (Option.none : Option Jvm.ClassFile.FieldType)).before a0 Z = true := hw _ (List.mem_of_getElem? (i := 16) rfl)
theorem tw17 {Z : State} {a0 : Array Value} (hw : ∀ d ∈ tables_1, d.before a0 Z = true) : (Jvm.Cond.methodLink "java/lang/String" (27 : Nat) ({ cls := "java/lang/String", name := "<init>", desc := "([CIILjava/lang/Void;)V" } : Jvm.MethodName)).before a0 Z = true := hw _ (List.mem_of_getElem? (i := 17) rfl)
theorem tw18 {Z : State} {a0 : Array Value} (hw : ∀ d ∈ tables_1, d.before a0 Z = true) : (Jvm.Cond.instanceMethod ({ cls := "java/lang/String", name := "<init>", desc := "([CIILjava/lang/Void;)V" } : Jvm.MethodName)).before a0 Z = true := hw _ (List.mem_of_getElem? (i := 18) rfl)
theorem tw20 {Z : State} {a0 : Array Value} (hw : ∀ d ∈ tables_1, d.before a0 Z = true) : (Jvm.Cond.code ({ cls := "java/lang/String", name := "<init>", desc := "([CIILjava/lang/Void;)V" } : Jvm.MethodName) jdk_42_method_149_code (6 : Nat) (Option.none : Option Jvm.ClassFile.FieldType)).before a0 Z = true := hw _ (List.mem_of_getElem? (i := 20) rfl)
theorem tw21 {Z : State} {a0 : Array Value} (hw : ∀ d ∈ tables_1, d.before a0 Z = true) : (Jvm.Cond.methodLink "java/lang/String" (1 : Nat) ({ cls := "java/lang/Object", name := "<init>", desc := "()V" } : Jvm.MethodName)).before a0 Z = true := hw _ (List.mem_of_getElem? (i := 21) rfl)
theorem tw22 {Z : State} {a0 : Array Value} (hw : ∀ d ∈ tables_1, d.before a0 Z = true) : (Jvm.Cond.instanceMethod ({ cls := "java/lang/Object", name := "<init>", desc := "()V" } : Jvm.MethodName)).before a0 Z = true := hw _ (List.mem_of_getElem? (i := 22) rfl)
theorem tw23 {Z : State} {a0 : Array Value} (hw : ∀ d ∈ tables_1, d.before a0 Z = true) : (Jvm.Cond.code ({ cls := "java/lang/Object", name := "<init>", desc := "()V" } : Jvm.MethodName) object_method_1_code (1 : Nat) (Option.none : Option Jvm.ClassFile.FieldType)).before a0 Z = true := hw _ (List.mem_of_getElem? (i := 23) rfl)
theorem tw24 {Z : State} {a0 : Array Value} (hw : ∀ d ∈ tables_1, d.before a0 Z = true) : (Jvm.Cond.stringLink "java/lang/String" (7 : Nat) "").before a0 Z = true := hw _ (List.mem_of_getElem? (i := 24) rfl)
theorem tw25 {Z : State} {a0 : Array Value} (hw : ∀ d ∈ tables_1, d.before a0 Z = true) : (Jvm.Cond.arrayClass Jvm.ClassFile.FieldType.byte).before a0 Z = true := hw _ (List.mem_of_getElem? (i := 25) rfl)
theorem tw26 {Z : State} {a0 : Array Value} (hw : ∀ d ∈ tables_1, d.before a0 Z = true) : (Jvm.Cond.laysFinal "java/lang/String" "java/lang/String" "value" "[B").before a0 Z = true := hw _ (List.mem_of_getElem? (i := 26) rfl)
theorem tw27 {Z : State} {a0 : Array Value} (hw : ∀ d ∈ tables_1, d.before a0 Z = true) : (Jvm.Cond.laysFinal "java/lang/String" "java/lang/String" "coder" "B").before a0 Z = true := hw _ (List.mem_of_getElem? (i := 27) rfl)
theorem tw30 {Z : State} {a0 : Array Value} (hw : ∀ d ∈ tables_1, d.before a0 Z = true) : (Jvm.Cond.fieldLink "java/lang/String" (9 : Nat) "java/lang/String" "value" "[B").before a0 Z = true := hw _ (List.mem_of_getElem? (i := 30) rfl)
theorem tw31 {Z : State} {a0 : Array Value} (hw : ∀ d ∈ tables_1, d.before a0 Z = true) : (Jvm.Cond.fieldLink "java/lang/String" (15 : Nat) "java/lang/String" "coder" "B").before a0 Z = true := hw _ (List.mem_of_getElem? (i := 31) rfl)
theorem tw32 {Z : State} {a0 : Array Value} (hw : ∀ d ∈ tables_1, d.before a0 Z = true) : (Jvm.Cond.methodLink "com/example/hecate/hecate/HolderEqualsPinLaw" (35 : Nat) ({ cls := "com/example/hecate/hecate/Holder", name := "<init>", desc := "(Ljava/lang/String;Ljava/lang/String;)V" } : Jvm.MethodName)).before a0 Z = true := hw _ (List.mem_of_getElem? (i := 32) rfl)
theorem tw33 {Z : State} {a0 : Array Value} (hw : ∀ d ∈ tables_1, d.before a0 Z = true) : (Jvm.Cond.instanceMethod ({ cls := "com/example/hecate/hecate/Holder", name := "<init>", desc := "(Ljava/lang/String;Ljava/lang/String;)V" } : Jvm.MethodName)).before a0 Z = true := hw _ (List.mem_of_getElem? (i := 33) rfl)
theorem tw34 {Z : State} {a0 : Array Value} (hw : ∀ d ∈ tables_1, d.before a0 Z = true) : (Jvm.Cond.code ({ cls := "com/example/hecate/hecate/Holder", name := "<init>", desc := "(Ljava/lang/String;Ljava/lang/String;)V" } : Jvm.MethodName) prog_2_method_1_code (3 : Nat) (Option.none : Option Jvm.ClassFile.FieldType)).before a0 Z = true := hw _ (List.mem_of_getElem? (i := 34) rfl)
theorem tw35 {Z : State} {a0 : Array Value} (hw : ∀ d ∈ tables_1, d.before a0 Z = true) : (Jvm.Cond.methodLink "com/example/hecate/hecate/Holder" (1 : Nat) ({ cls := "java/lang/Object", name := "<init>", desc := "()V" } : Jvm.MethodName)).before a0 Z = true := hw _ (List.mem_of_getElem? (i := 35) rfl)
theorem tw36 {Z : State} {a0 : Array Value} (hw : ∀ d ∈ tables_1, d.before a0 Z = true) : (Jvm.Cond.fieldLink "com/example/hecate/hecate/Holder" (7 : Nat) "com/example/hecate/hecate/Holder" "owner" "Ljava/lang/String;").before a0 Z = true := hw _ (List.mem_of_getElem? (i := 36) rfl)
theorem tw37 {Z : State} {a0 : Array Value} (hw : ∀ d ∈ tables_1, d.before a0 Z = true) : (Jvm.Cond.laysFinal "com/example/hecate/hecate/Holder" "com/example/hecate/hecate/Holder" "owner" "Ljava/lang/String;").before a0 Z = true := hw _ (List.mem_of_getElem? (i := 37) rfl)
theorem tw38 {Z : State} {a0 : Array Value} (hw : ∀ d ∈ tables_1, d.before a0 Z = true) : (Jvm.Cond.fieldLink "com/example/hecate/hecate/Holder" (13 : Nat) "com/example/hecate/hecate/Holder" "instanceId" "Ljava/lang/String;").before a0 Z = true := hw _ (List.mem_of_getElem? (i := 38) rfl)
theorem tw39 {Z : State} {a0 : Array Value} (hw : ∀ d ∈ tables_1, d.before a0 Z = true) : (Jvm.Cond.laysFinal "com/example/hecate/hecate/Holder" "com/example/hecate/hecate/Holder" "instanceId" "Ljava/lang/String;").before a0 Z = true := hw _ (List.mem_of_getElem? (i := 39) rfl)
theorem tw40 {Z : State} {a0 : Array Value} (hw : ∀ d ∈ tables_1, d.before a0 Z = true) : (Jvm.Cond.methodLink "com/example/hecate/hecate/HolderEqualsPinLaw" (42 : Nat) ({ cls := "com/example/hecate/hecate/HolderEqualsPinLaw", name := "same", desc := "(II)Z" } : Jvm.MethodName)).before a0 Z = true := hw _ (List.mem_of_getElem? (i := 40) rfl)
theorem tw41 {Z : State} {a0 : Array Value} (hw : ∀ d ∈ tables_1, d.before a0 Z = true) : (Jvm.Cond.static ({ cls := "com/example/hecate/hecate/HolderEqualsPinLaw", name := "same", desc := "(II)Z" } : Jvm.MethodName)).before a0 Z = true := hw _ (List.mem_of_getElem? (i := 41) rfl)
theorem tw42 {Z : State} {a0 : Array Value} (hw : ∀ d ∈ tables_1, d.before a0 Z = true) : (Jvm.Cond.code ({ cls := "com/example/hecate/hecate/HolderEqualsPinLaw", name := "same", desc := "(II)Z" } : Jvm.MethodName) method_6_code (3 : Nat) (Option.some Jvm.ClassFile.FieldType.boolean)).before a0 Z = true := hw _ (List.mem_of_getElem? (i := 42) rfl)
theorem tw43 {Z : State} {a0 : Array Value} (hw : ∀ d ∈ tables_1, d.before a0 Z = true) : (Jvm.Cond.methodLink "com/example/hecate/hecate/HolderEqualsPinLaw" (38 : Nat) ({ cls := "com/example/hecate/hecate/Holder", name := "equals", desc := "(Ljava/lang/Object;)Z" } : Jvm.MethodName)).before a0 Z = true := hw _ (List.mem_of_getElem? (i := 43) rfl)
theorem tw44 {Z : State} {a0 : Array Value} (hw : ∀ d ∈ tables_1, d.before a0 Z = true) : (Jvm.Cond.declares ({ cls := "com/example/hecate/hecate/Holder", name := "equals", desc := "(Ljava/lang/Object;)Z" } : Jvm.MethodName)).before a0 Z = true := hw _ (List.mem_of_getElem? (i := 44) rfl)
theorem tw45 {Z : State} {a0 : Array Value} (hw : ∀ d ∈ tables_1, d.before a0 Z = true) : (Jvm.Cond.instanceMethod ({ cls := "com/example/hecate/hecate/Holder", name := "equals", desc := "(Ljava/lang/Object;)Z" } : Jvm.MethodName)).before a0 Z = true := hw _ (List.mem_of_getElem? (i := 45) rfl)
theorem tw46 {Z : State} {a0 : Array Value} (hw : ∀ d ∈ tables_1, d.before a0 Z = true) : (Jvm.Cond.selects "com/example/hecate/hecate/Holder" ({ cls := "com/example/hecate/hecate/Holder", name := "equals", desc := "(Ljava/lang/Object;)Z" } : Jvm.MethodName) ({ cls := "com/example/hecate/hecate/Holder", name := "equals", desc := "(Ljava/lang/Object;)Z" } : Jvm.MethodName)).before a0 Z = true := hw _ (List.mem_of_getElem? (i := 46) rfl)
theorem tw47 {Z : State} {a0 : Array Value} (hw : ∀ d ∈ tables_1, d.before a0 Z = true) : (Jvm.Cond.code ({ cls := "com/example/hecate/hecate/Holder", name := "equals", desc := "(Ljava/lang/Object;)Z" } : Jvm.MethodName) prog_2_method_4_code (3 : Nat) (Option.some Jvm.ClassFile.FieldType.boolean)).before a0 Z = true := hw _ (List.mem_of_getElem? (i := 47) rfl)
theorem tw48 {Z : State} {a0 : Array Value} (hw : ∀ d ∈ tables_1, d.before a0 Z = true) : (Jvm.Cond.classLink "com/example/hecate/hecate/Holder" (8 : Nat) "com/example/hecate/hecate/Holder").before a0 Z = true := hw _ (List.mem_of_getElem? (i := 48) rfl)
theorem tw50 {Z : State} {a0 : Array Value} (hw : ∀ d ∈ tables_1, d.before a0 Z = true) : (Jvm.Cond.methodLink "com/example/hecate/hecate/Holder" (34 : Nat) ({ cls := "java/lang/String", name := "equals", desc := "(Ljava/lang/Object;)Z" } : Jvm.MethodName)).before a0 Z = true := hw _ (List.mem_of_getElem? (i := 50) rfl)
theorem tw51 {Z : State} {a0 : Array Value} (hw : ∀ d ∈ tables_1, d.before a0 Z = true) : (Jvm.Cond.declares ({ cls := "java/lang/String", name := "equals", desc := "(Ljava/lang/Object;)Z" } : Jvm.MethodName)).before a0 Z = true := hw _ (List.mem_of_getElem? (i := 51) rfl)
theorem tw52 {Z : State} {a0 : Array Value} (hw : ∀ d ∈ tables_1, d.before a0 Z = true) : (Jvm.Cond.instanceMethod ({ cls := "java/lang/String", name := "equals", desc := "(Ljava/lang/Object;)Z" } : Jvm.MethodName)).before a0 Z = true := hw _ (List.mem_of_getElem? (i := 52) rfl)
theorem tw53 {Z : State} {a0 : Array Value} (hw : ∀ d ∈ tables_1, d.before a0 Z = true) : (Jvm.Cond.selects "java/lang/String" ({ cls := "java/lang/String", name := "equals", desc := "(Ljava/lang/Object;)Z" } : Jvm.MethodName) ({ cls := "java/lang/String", name := "equals", desc := "(Ljava/lang/Object;)Z" } : Jvm.MethodName)).before a0 Z = true := hw _ (List.mem_of_getElem? (i := 53) rfl)
theorem tw55 {Z : State} {a0 : Array Value} (hw : ∀ d ∈ tables_1, d.before a0 Z = true) : (Jvm.Cond.classLink "java/lang/String" (10 : Nat) "java/lang/String").before a0 Z = true := hw _ (List.mem_of_getElem? (i := 55) rfl)
theorem tw56 {Z : State} {a0 : Array Value} (hw : ∀ d ∈ tables_1, d.before a0 Z = true) : (Jvm.Cond.fieldLink "java/lang/String" (38 : Nat) "java/lang/String" "COMPACT_STRINGS" "Z").before a0 Z = true := hw _ (List.mem_of_getElem? (i := 56) rfl)
theorem tw59 {Z : State} {a0 : Array Value} (hw : ∀ d ∈ tables_1, d.before a0 Z = true) : (Jvm.Cond.initialized "java/lang/StringLatin1").before a0 Z = true := hw _ (List.mem_of_getElem? (i := 59) rfl)
theorem tw61 {Z : State} {a0 : Array Value} (hw : ∀ d ∈ tables_1, d.before a0 Z = true) : (Jvm.Cond.superclass "java/lang/String" "java/lang/Object").before a0 Z = true := hw _ (List.mem_of_getElem? (i := 61) rfl)
theorem tw62 {Z : State} {a0 : Array Value} (hw : ∀ d ∈ tables_1, d.before a0 Z = true) : (Jvm.Cond.noSuperclass "java/lang/Object").before a0 Z = true := hw _ (List.mem_of_getElem? (i := 62) rfl)
theorem tw63 {Z : State} {a0 : Array Value} (hw : ∀ d ∈ tables_1, d.before a0 Z = true) : (Jvm.Cond.methodLink "com/example/hecate/hecate/HolderEqualsPinLaw" (18 : Nat) ({ cls := "com/example/hecate/hecate/HolderEqualsPinLaw", name := "ch0", desc := "(I)C" } : Jvm.MethodName)).before a0 Z = true := hw _ (List.mem_of_getElem? (i := 63) rfl)
theorem tw64 {Z : State} {a0 : Array Value} (hw : ∀ d ∈ tables_1, d.before a0 Z = true) : (Jvm.Cond.static ({ cls := "com/example/hecate/hecate/HolderEqualsPinLaw", name := "ch0", desc := "(I)C" } : Jvm.MethodName)).before a0 Z = true := hw _ (List.mem_of_getElem? (i := 64) rfl)
theorem tw65 {Z : State} {a0 : Array Value} (hw : ∀ d ∈ tables_1, d.before a0 Z = true) : (Jvm.Cond.code ({ cls := "com/example/hecate/hecate/HolderEqualsPinLaw", name := "ch0", desc := "(I)C" } : Jvm.MethodName) method_3_code (1 : Nat) (Option.some Jvm.ClassFile.FieldType.char)).before a0 Z = true := hw _ (List.mem_of_getElem? (i := 65) rfl)
theorem tw66 {Z : State} {a0 : Array Value} (hw : ∀ d ∈ tables_1, d.before a0 Z = true) : (Jvm.Cond.methodLink "com/example/hecate/hecate/HolderEqualsPinLaw" (22 : Nat) ({ cls := "java/lang/String", name := "valueOf", desc := "(C)Ljava/lang/String;" } : Jvm.MethodName)).before a0 Z = true := hw _ (List.mem_of_getElem? (i := 66) rfl)
theorem tw67 {Z : State} {a0 : Array Value} (hw : ∀ d ∈ tables_1, d.before a0 Z = true) : (Jvm.Cond.static ({ cls := "java/lang/String", name := "valueOf", desc := "(C)Ljava/lang/String;" } : Jvm.MethodName)).before a0 Z = true := hw _ (List.mem_of_getElem? (i := 67) rfl)
theorem tw68 {Z : State} {a0 : Array Value} (hw : ∀ d ∈ tables_1, d.before a0 Z = true) : (Jvm.Cond.code ({ cls := "java/lang/String", name := "valueOf", desc := "(C)Ljava/lang/String;" } : Jvm.MethodName) jdk_42_method_139_code (1 : Nat) (Option.some (Jvm.ClassFile.FieldType.object "java/lang/String"))).before a0 Z = true := hw _ (List.mem_of_getElem? (i := 68) rfl)
theorem tw69 {Z : State} {a0 : Array Value} (hw : ∀ d ∈ tables_1, d.before a0 Z = true) : (Jvm.Cond.methodLink "java/lang/String" (1015 : Nat) ({ cls := "java/lang/StringLatin1", name := "canEncode", desc := "(C)Z" } : Jvm.MethodName)).before a0 Z = true := hw _ (List.mem_of_getElem? (i := 69) rfl)
theorem tw70 {Z : State} {a0 : Array Value} (hw : ∀ d ∈ tables_1, d.before a0 Z = true) : (Jvm.Cond.static ({ cls := "java/lang/StringLatin1", name := "canEncode", desc := "(C)Z" } : Jvm.MethodName)).before a0 Z = true := hw _ (List.mem_of_getElem? (i := 70) rfl)
theorem tw71 {Z : State} {a0 : Array Value} (hw : ∀ d ∈ tables_1, d.before a0 Z = true) : (Jvm.Cond.code ({ cls := "java/lang/StringLatin1", name := "canEncode", desc := "(C)Z" } : Jvm.MethodName) jdk_43_method_3_code (1 : Nat) (Option.some Jvm.ClassFile.FieldType.boolean)).before a0 Z = true := hw _ (List.mem_of_getElem? (i := 71) rfl)
theorem tw72 {Z : State} {a0 : Array Value} (hw : ∀ d ∈ tables_1, d.before a0 Z = true) : (Jvm.Cond.methodLink "java/lang/String" (1018 : Nat) ({ cls := "java/lang/StringLatin1", name := "toBytes", desc := "(C)[B" } : Jvm.MethodName)).before a0 Z = true := hw _ (List.mem_of_getElem? (i := 72) rfl)
theorem tw73 {Z : State} {a0 : Array Value} (hw : ∀ d ∈ tables_1, d.before a0 Z = true) : (Jvm.Cond.static ({ cls := "java/lang/StringLatin1", name := "toBytes", desc := "(C)[B" } : Jvm.MethodName)).before a0 Z = true := hw _ (List.mem_of_getElem? (i := 73) rfl)
theorem tw74 {Z : State} {a0 : Array Value} (hw : ∀ d ∈ tables_1, d.before a0 Z = true) : (Jvm.Cond.code ({ cls := "java/lang/StringLatin1", name := "toBytes", desc := "(C)[B" } : Jvm.MethodName) jdk_43_method_46_code (1 : Nat) (Option.some (Jvm.ClassFile.FieldType.array Jvm.ClassFile.FieldType.byte))).before a0 Z = true := hw _ (List.mem_of_getElem? (i := 74) rfl)
theorem tw75 {Z : State} {a0 : Array Value} (hw : ∀ d ∈ tables_1, d.before a0 Z = true) : (Jvm.Cond.methodLink "java/lang/String" (209 : Nat) ({ cls := "java/lang/String", name := "<init>", desc := "([BB)V" } : Jvm.MethodName)).before a0 Z = true := hw _ (List.mem_of_getElem? (i := 75) rfl)
theorem tw76 {Z : State} {a0 : Array Value} (hw : ∀ d ∈ tables_1, d.before a0 Z = true) : (Jvm.Cond.instanceMethod ({ cls := "java/lang/String", name := "<init>", desc := "([BB)V" } : Jvm.MethodName)).before a0 Z = true := hw _ (List.mem_of_getElem? (i := 76) rfl)
theorem tw77 {Z : State} {a0 : Array Value} (hw : ∀ d ∈ tables_1, d.before a0 Z = true) : (Jvm.Cond.code ({ cls := "java/lang/String", name := "<init>", desc := "([BB)V" } : Jvm.MethodName) jdk_42_method_151_code (3 : Nat) (Option.none : Option Jvm.ClassFile.FieldType)).before a0 Z = true := hw _ (List.mem_of_getElem? (i := 77) rfl)
theorem tw78 {Z : State} {a0 : Array Value} (hw : ∀ d ∈ tables_1, d.before a0 Z = true) : (Jvm.Cond.methodLink "com/example/hecate/hecate/HolderEqualsPinLaw" (26 : Nat) ({ cls := "com/example/hecate/hecate/HolderEqualsPinLaw", name := "ch1", desc := "(I)C" } : Jvm.MethodName)).before a0 Z = true := hw _ (List.mem_of_getElem? (i := 78) rfl)
theorem tw79 {Z : State} {a0 : Array Value} (hw : ∀ d ∈ tables_1, d.before a0 Z = true) : (Jvm.Cond.static ({ cls := "com/example/hecate/hecate/HolderEqualsPinLaw", name := "ch1", desc := "(I)C" } : Jvm.MethodName)).before a0 Z = true := hw _ (List.mem_of_getElem? (i := 79) rfl)
theorem tw80 {Z : State} {a0 : Array Value} (hw : ∀ d ∈ tables_1, d.before a0 Z = true) : (Jvm.Cond.code ({ cls := "com/example/hecate/hecate/HolderEqualsPinLaw", name := "ch1", desc := "(I)C" } : Jvm.MethodName) method_4_code (1 : Nat) (Option.some Jvm.ClassFile.FieldType.char)).before a0 Z = true := hw _ (List.mem_of_getElem? (i := 80) rfl)
theorem d0_0 : decode jdk_42_method_149_code 0 = .ok (.aload_n 0, 1) := by decide +kernel
theorem d0_1 : decode jdk_42_method_149_code 1 = .ok (.invokespecial 1, 3) := by decide +kernel
theorem d0_4 : decode jdk_42_method_149_code 4 = .ok (.iload_n 3, 1) := by decide +kernel
theorem d0_5 : decode jdk_42_method_149_code 5 = .ok (.ifCond .ne 22, 3) := by decide +kernel
theorem d0_8 : decode jdk_42_method_149_code 8 = .ok (.aload_n 0, 1) := by decide +kernel
theorem d0_9 : decode jdk_42_method_149_code 9 = .ok (.ldc 7, 2) := by decide +kernel
theorem d0_11 : decode jdk_42_method_149_code 11 = .ok (.getfield 9, 3) := by decide +kernel
theorem d0_14 : decode jdk_42_method_149_code 14 = .ok (.putfield 9, 3) := by decide +kernel
theorem d0_17 : decode jdk_42_method_149_code 17 = .ok (.aload_n 0, 1) := by decide +kernel
theorem d0_18 : decode jdk_42_method_149_code 18 = .ok (.ldc 7, 2) := by decide +kernel
theorem d0_20 : decode jdk_42_method_149_code 20 = .ok (.getfield 15, 3) := by decide +kernel
theorem d0_23 : decode jdk_42_method_149_code 23 = .ok (.putfield 15, 3) := by decide +kernel
theorem d0_26 : decode jdk_42_method_149_code 26 = .ok (.return_, 1) := by decide +kernel
theorem pn_0 : plainName "java/lang/String" = true := by first | (simp [plainName, overriddenIn]; done) | decide +kernel
theorem d1_0 : decode jdk_42_method_3_code 0 = .ok (.aload_n 0, 1) := by decide +kernel
theorem d1_1 : decode jdk_42_method_3_code 1 = .ok (.aload_n 1, 1) := by decide +kernel
theorem d1_2 : decode jdk_42_method_3_code 2 = .ok (.iconst 0, 1) := by decide +kernel
theorem d1_3 : decode jdk_42_method_3_code 3 = .ok (.aload_n 1, 1) := by decide +kernel
theorem d1_4 : decode jdk_42_method_3_code 4 = .ok (.arraylength, 1) := by decide +kernel
theorem d1_5 : decode jdk_42_method_3_code 5 = .ok (.aconst_null, 1) := by decide +kernel
theorem pd_0 : parseMethodDescriptor "([CIILjava/lang/Void;)V" = some ⟨[(.array .char), .int, .int, (.object "java/lang/Void")], none⟩ := by decide +kernel
theorem d1_6 : decode jdk_42_method_3_code 6 = .ok (.invokespecial 27, 3) := by decide +kernel
theorem d1_9 : decode jdk_42_method_3_code 9 = .ok (.return_, 1) := by decide +kernel
theorem d2_0 : decode method_2_code 0 = .ok (.iload_n 0, 1) := by decide +kernel
theorem d2_1 : decode method_2_code 1 = .ok (.bipush 16, 2) := by decide +kernel
theorem d2_3 : decode method_2_code 3 = .ok (.iushr, 1) := by decide +kernel
theorem d2_4 : decode method_2_code 4 = .ok (.sipush 32767, 3) := by decide +kernel
theorem d2_7 : decode method_2_code 7 = .ok (.iand, 1) := by decide +kernel
theorem d2_8 : decode method_2_code 8 = .ok (.iconst 3, 1) := by decide +kernel
theorem d2_9 : decode method_2_code 9 = .ok (.irem, 1) := by decide +kernel
theorem d2_10 : decode method_2_code 10 = .ok (.ireturn, 1) := by decide +kernel
theorem pn_1 : plainName "com/example/hecate/hecate/HolderEqualsPinLaw" = true := by first | (simp [plainName, overriddenIn]; done) | decide +kernel
theorem d3_0 : decode method_3_code 0 = .ok (.iload_n 0, 1) := by decide +kernel
theorem d3_1 : decode method_3_code 1 = .ok (.sipush 255, 3) := by decide +kernel
theorem d3_4 : decode method_3_code 4 = .ok (.iand, 1) := by decide +kernel
theorem d3_5 : decode method_3_code 5 = .ok (.i2c, 1) := by decide +kernel
theorem d3_6 : decode method_3_code 6 = .ok (.ireturn, 1) := by decide +kernel
theorem d4_0 : decode method_4_code 0 = .ok (.iload_n 0, 1) := by decide +kernel
theorem d4_1 : decode method_4_code 1 = .ok (.bipush 8, 2) := by decide +kernel
theorem d4_3 : decode method_4_code 3 = .ok (.iushr, 1) := by decide +kernel
theorem d4_4 : decode method_4_code 4 = .ok (.sipush 255, 3) := by decide +kernel
theorem d4_7 : decode method_4_code 7 = .ok (.iand, 1) := by decide +kernel
theorem d4_8 : decode method_4_code 8 = .ok (.i2c, 1) := by decide +kernel
theorem d4_9 : decode method_4_code 9 = .ok (.ireturn, 1) := by decide +kernel
theorem d5_0 : decode jdk_43_method_3_code 0 = .ok (.iload_n 0, 1) := by decide +kernel
theorem d5_1 : decode jdk_43_method_3_code 1 = .ok (.sipush 255, 3) := by decide +kernel
theorem d5_4 : decode jdk_43_method_3_code 4 = .ok (.if_icmp .gt 7, 3) := by decide +kernel
theorem d5_7 : decode jdk_43_method_3_code 7 = .ok (.iconst 1, 1) := by decide +kernel
theorem d5_8 : decode jdk_43_method_3_code 8 = .ok (.goto 4, 3) := by decide +kernel
theorem d5_12 : decode jdk_43_method_3_code 12 = .ok (.ireturn, 1) := by decide +kernel
theorem pn_2 : plainName "java/lang/StringLatin1" = true := by first | (simp [plainName, overriddenIn]; done) | decide +kernel
theorem d6_0 : decode jdk_43_method_46_code 0 = .ok (.iconst 1, 1) := by decide +kernel
theorem d6_1 : decode jdk_43_method_46_code 1 = .ok (.newarray .byte, 2) := by decide +kernel
theorem d6_3 : decode jdk_43_method_46_code 3 = .ok (.dup, 1) := by decide +kernel
theorem d6_4 : decode jdk_43_method_46_code 4 = .ok (.iconst 0, 1) := by decide +kernel
theorem d6_5 : decode jdk_43_method_46_code 5 = .ok (.iload_n 0, 1) := by decide +kernel
theorem d6_6 : decode jdk_43_method_46_code 6 = .ok (.i2b, 1) := by decide +kernel
theorem d6_7 : decode jdk_43_method_46_code 7 = .ok (.bastore, 1) := by decide +kernel
theorem d6_8 : decode jdk_43_method_46_code 8 = .ok (.areturn, 1) := by decide +kernel
theorem d7_0 : decode jdk_42_method_151_code 0 = .ok (.aload_n 0, 1) := by decide +kernel
theorem d7_1 : decode jdk_42_method_151_code 1 = .ok (.invokespecial 1, 3) := by decide +kernel
theorem d7_4 : decode jdk_42_method_151_code 4 = .ok (.aload_n 0, 1) := by decide +kernel
theorem d7_5 : decode jdk_42_method_151_code 5 = .ok (.aload_n 1, 1) := by decide +kernel
theorem d7_6 : decode jdk_42_method_151_code 6 = .ok (.putfield 9, 3) := by decide +kernel
theorem d7_9 : decode jdk_42_method_151_code 9 = .ok (.aload_n 0, 1) := by decide +kernel
theorem d7_10 : decode jdk_42_method_151_code 10 = .ok (.iload_n 2, 1) := by decide +kernel
theorem d7_11 : decode jdk_42_method_151_code 11 = .ok (.putfield 15, 3) := by decide +kernel
theorem d7_14 : decode jdk_42_method_151_code 14 = .ok (.return_, 1) := by decide +kernel
theorem d8_0 : decode jdk_42_method_139_code 0 = .ok (.getstatic 38, 3) := by decide +kernel
theorem d8_3 : decode jdk_42_method_139_code 3 = .ok (.ifCond .eq 23, 3) := by decide +kernel
theorem d8_6 : decode jdk_42_method_139_code 6 = .ok (.iload_n 0, 1) := by decide +kernel
theorem pd_1 : parseMethodDescriptor "(C)Z" = some ⟨[.char], some .boolean⟩ := by decide +kernel
theorem d8_7 : decode jdk_42_method_139_code 7 = .ok (.invokestatic 1015, 3) := by decide +kernel
theorem d8_10 : decode jdk_42_method_139_code 10 = .ok (.ifCond .eq 16, 3) := by decide +kernel
theorem d8_13 : decode jdk_42_method_139_code 13 = .ok (.new 10, 3) := by decide +kernel
theorem d8_16 : decode jdk_42_method_139_code 16 = .ok (.dup, 1) := by decide +kernel
theorem d8_17 : decode jdk_42_method_139_code 17 = .ok (.iload_n 0, 1) := by decide +kernel
theorem pd_2 : parseMethodDescriptor "(C)[B" = some ⟨[.char], some (.array .byte)⟩ := by decide +kernel
theorem d8_18 : decode jdk_42_method_139_code 18 = .ok (.invokestatic 1018, 3) := by decide +kernel
theorem d8_21 : decode jdk_42_method_139_code 21 = .ok (.iconst 0, 1) := by decide +kernel
theorem pd_3 : parseMethodDescriptor "([BB)V" = some ⟨[(.array .byte), .byte], none⟩ := by decide +kernel
theorem d8_22 : decode jdk_42_method_139_code 22 = .ok (.invokespecial 209, 3) := by decide +kernel
theorem d8_25 : decode jdk_42_method_139_code 25 = .ok (.areturn, 1) := by decide +kernel
theorem d9_0 : decode method_5_code 0 = .ok (.iload_n 0, 1) := by decide +kernel
theorem pd_4 : parseMethodDescriptor "(I)I" = some ⟨[.int], some .int⟩ := by decide +kernel
theorem d9_1 : decode method_5_code 1 = .ok (.invokestatic 7, 3) := by decide +kernel
theorem d9_4 : decode method_5_code 4 = .ok (.istore_n 1, 1) := by decide +kernel
theorem d9_5 : decode method_5_code 5 = .ok (.iload_n 1, 1) := by decide +kernel
theorem d9_6 : decode method_5_code 6 = .ok (.ifCond .ne 14, 3) := by decide +kernel
theorem d9_9 : decode method_5_code 9 = .ok (.new 13, 3) := by decide +kernel
theorem d9_12 : decode method_5_code 12 = .ok (.dup, 1) := by decide +kernel
theorem d9_13 : decode method_5_code 13 = .ok (.iconst 0, 1) := by decide +kernel
theorem d9_14 : decode method_5_code 14 = .ok (.newarray .char, 2) := by decide +kernel
theorem pd_5 : parseMethodDescriptor "([C)V" = some ⟨[(.array .char)], none⟩ := by decide +kernel
theorem d9_16 : decode method_5_code 16 = .ok (.invokespecial 15, 3) := by decide +kernel
theorem d9_19 : decode method_5_code 19 = .ok (.areturn, 1) := by decide +kernel
theorem d9_20 : decode method_5_code 20 = .ok (.iload_n 1, 1) := by decide +kernel
theorem d9_21 : decode method_5_code 21 = .ok (.iconst 1, 1) := by decide +kernel
theorem d9_22 : decode method_5_code 22 = .ok (.if_icmp .ne 11, 3) := by decide +kernel
theorem d9_25 : decode method_5_code 25 = .ok (.iload_n 0, 1) := by decide +kernel
theorem pd_6 : parseMethodDescriptor "(I)C" = some ⟨[.int], some .char⟩ := by decide +kernel
theorem d9_26 : decode method_5_code 26 = .ok (.invokestatic 18, 3) := by decide +kernel
theorem pd_7 : parseMethodDescriptor "(C)Ljava/lang/String;" = some ⟨[.char], some (.object "java/lang/String")⟩ := by decide +kernel
theorem d9_29 : decode method_5_code 29 = .ok (.invokestatic 22, 3) := by decide +kernel
theorem d9_32 : decode method_5_code 32 = .ok (.areturn, 1) := by decide +kernel
theorem d9_33 : decode method_5_code 33 = .ok (.iconst 2, 1) := by decide +kernel
theorem d9_34 : decode method_5_code 34 = .ok (.newarray .char, 2) := by decide +kernel
theorem d9_36 : decode method_5_code 36 = .ok (.astore_n 2, 1) := by decide +kernel
theorem d9_37 : decode method_5_code 37 = .ok (.aload_n 2, 1) := by decide +kernel
theorem d9_38 : decode method_5_code 38 = .ok (.iconst 0, 1) := by decide +kernel
theorem d9_39 : decode method_5_code 39 = .ok (.iload_n 0, 1) := by decide +kernel
theorem d9_40 : decode method_5_code 40 = .ok (.invokestatic 18, 3) := by decide +kernel
theorem d9_43 : decode method_5_code 43 = .ok (.castore, 1) := by decide +kernel
theorem d9_44 : decode method_5_code 44 = .ok (.aload_n 2, 1) := by decide +kernel
theorem d9_45 : decode method_5_code 45 = .ok (.iconst 1, 1) := by decide +kernel
theorem d9_46 : decode method_5_code 46 = .ok (.iload_n 0, 1) := by decide +kernel
theorem d9_47 : decode method_5_code 47 = .ok (.invokestatic 26, 3) := by decide +kernel
theorem d9_50 : decode method_5_code 50 = .ok (.castore, 1) := by decide +kernel
theorem d9_51 : decode method_5_code 51 = .ok (.new 13, 3) := by decide +kernel
theorem d9_54 : decode method_5_code 54 = .ok (.dup, 1) := by decide +kernel
theorem d9_55 : decode method_5_code 55 = .ok (.aload_n 2, 1) := by decide +kernel
theorem d9_56 : decode method_5_code 56 = .ok (.invokespecial 15, 3) := by decide +kernel
theorem d9_59 : decode method_5_code 59 = .ok (.areturn, 1) := by decide +kernel
theorem d10_0 : decode method_6_code 0 = .ok (.iload_n 0, 1) := by decide +kernel
theorem d10_1 : decode method_6_code 1 = .ok (.invokestatic 7, 3) := by decide +kernel
theorem d10_4 : decode method_6_code 4 = .ok (.istore_n 2, 1) := by decide +kernel
theorem d10_5 : decode method_6_code 5 = .ok (.iload_n 2, 1) := by decide +kernel
theorem d10_6 : decode method_6_code 6 = .ok (.iload_n 1, 1) := by decide +kernel
theorem d10_7 : decode method_6_code 7 = .ok (.invokestatic 7, 3) := by decide +kernel
theorem d10_10 : decode method_6_code 10 = .ok (.if_icmp .eq 5, 3) := by decide +kernel
theorem d10_15 : decode method_6_code 15 = .ok (.iload_n 2, 1) := by decide +kernel
theorem d10_16 : decode method_6_code 16 = .ok (.iconst 1, 1) := by decide +kernel
theorem d10_17 : decode method_6_code 17 = .ok (.if_icmp .lt 16, 3) := by decide +kernel
theorem d10_33 : decode method_6_code 33 = .ok (.iload_n 2, 1) := by decide +kernel
theorem d10_34 : decode method_6_code 34 = .ok (.iconst 2, 1) := by decide +kernel
theorem d10_35 : decode method_6_code 35 = .ok (.if_icmp .lt 16, 3) := by decide +kernel
theorem d10_51 : decode method_6_code 51 = .ok (.iconst 1, 1) := by decide +kernel
theorem d10_52 : decode method_6_code 52 = .ok (.ireturn, 1) := by decide +kernel
theorem d10_38 : decode method_6_code 38 = .ok (.iload_n 0, 1) := by decide +kernel
theorem d10_39 : decode method_6_code 39 = .ok (.invokestatic 26, 3) := by decide +kernel
theorem d10_42 : decode method_6_code 42 = .ok (.iload_n 1, 1) := by decide +kernel
theorem d10_43 : decode method_6_code 43 = .ok (.invokestatic 26, 3) := by decide +kernel
theorem d10_20 : decode method_6_code 20 = .ok (.iload_n 0, 1) := by decide +kernel
theorem d10_21 : decode method_6_code 21 = .ok (.invokestatic 18, 3) := by decide +kernel
theorem d10_24 : decode method_6_code 24 = .ok (.iload_n 1, 1) := by decide +kernel
theorem d10_25 : decode method_6_code 25 = .ok (.invokestatic 18, 3) := by decide +kernel
theorem d10_28 : decode method_6_code 28 = .ok (.if_icmp .eq 5, 3) := by decide +kernel
theorem d10_46 : decode method_6_code 46 = .ok (.if_icmp .eq 5, 3) := by decide +kernel
theorem d10_49 : decode method_6_code 49 = .ok (.iconst 0, 1) := by decide +kernel
theorem d10_50 : decode method_6_code 50 = .ok (.ireturn, 1) := by decide +kernel
theorem d10_31 : decode method_6_code 31 = .ok (.iconst 0, 1) := by decide +kernel
theorem d10_32 : decode method_6_code 32 = .ok (.ireturn, 1) := by decide +kernel
theorem d10_13 : decode method_6_code 13 = .ok (.iconst 0, 1) := by decide +kernel
theorem d10_14 : decode method_6_code 14 = .ok (.ireturn, 1) := by decide +kernel
theorem d11_0 : decode prog_2_method_1_code 0 = .ok (.aload_n 0, 1) := by decide +kernel
theorem d11_1 : decode prog_2_method_1_code 1 = .ok (.invokespecial 1, 3) := by decide +kernel
theorem d11_4 : decode prog_2_method_1_code 4 = .ok (.aload_n 0, 1) := by decide +kernel
theorem d11_5 : decode prog_2_method_1_code 5 = .ok (.aload_n 1, 1) := by decide +kernel
theorem d11_6 : decode prog_2_method_1_code 6 = .ok (.putfield 7, 3) := by decide +kernel
theorem d11_9 : decode prog_2_method_1_code 9 = .ok (.aload_n 0, 1) := by decide +kernel
theorem d11_10 : decode prog_2_method_1_code 10 = .ok (.aload_n 2, 1) := by decide +kernel
theorem d11_11 : decode prog_2_method_1_code 11 = .ok (.putfield 13, 3) := by decide +kernel
theorem d11_14 : decode prog_2_method_1_code 14 = .ok (.return_, 1) := by decide +kernel
theorem pn_3 : plainName "com/example/hecate/hecate/Holder" = true := by first | (simp [plainName, overriddenIn]; done) | decide +kernel
theorem d12_0 : decode prog_2_method_4_code 0 = .ok (.aload_n 1, 1) := by decide +kernel
theorem d12_1 : decode prog_2_method_4_code 1 = .ok (.instanceof 8, 3) := by decide +kernel
theorem d12_4 : decode prog_2_method_4_code 4 = .ok (.ifCond .eq 40, 3) := by decide +kernel
theorem d12_44 : decode prog_2_method_4_code 44 = .ok (.iconst 0, 1) := by decide +kernel
theorem d12_45 : decode prog_2_method_4_code 45 = .ok (.ireturn, 1) := by decide +kernel
theorem d12_7 : decode prog_2_method_4_code 7 = .ok (.aload_n 1, 1) := by decide +kernel
theorem d12_8 : decode prog_2_method_4_code 8 = .ok (.checkcast 8, 3) := by decide +kernel
theorem d12_11 : decode prog_2_method_4_code 11 = .ok (.astore_n 2, 1) := by decide +kernel
theorem d12_12 : decode prog_2_method_4_code 12 = .ok (.aload_n 0, 1) := by decide +kernel
theorem d12_13 : decode prog_2_method_4_code 13 = .ok (.getfield 7, 3) := by decide +kernel
theorem d12_16 : decode prog_2_method_4_code 16 = .ok (.aload_n 2, 1) := by decide +kernel
theorem d12_17 : decode prog_2_method_4_code 17 = .ok (.getfield 7, 3) := by decide +kernel
theorem pd_8 : parseMethodDescriptor "(Ljava/lang/Object;)Z" = some ⟨[(.object "java/lang/Object")], some .boolean⟩ := by decide +kernel
theorem d12_20 : decode prog_2_method_4_code 20 = .ok (.invokevirtual 34, 3) := by decide +kernel
theorem d12_23 : decode prog_2_method_4_code 23 = .ok (.ifCond .eq 21, 3) := by decide +kernel
theorem d12_26 : decode prog_2_method_4_code 26 = .ok (.aload_n 0, 1) := by decide +kernel
theorem d12_27 : decode prog_2_method_4_code 27 = .ok (.getfield 13, 3) := by decide +kernel
theorem d12_30 : decode prog_2_method_4_code 30 = .ok (.aload_n 2, 1) := by decide +kernel
theorem d12_31 : decode prog_2_method_4_code 31 = .ok (.getfield 13, 3) := by decide +kernel
theorem d12_34 : decode prog_2_method_4_code 34 = .ok (.invokevirtual 34, 3) := by decide +kernel
theorem d12_37 : decode prog_2_method_4_code 37 = .ok (.ifCond .eq 7, 3) := by decide +kernel
theorem d12_40 : decode prog_2_method_4_code 40 = .ok (.iconst 1, 1) := by decide +kernel
theorem d12_41 : decode prog_2_method_4_code 41 = .ok (.goto 4, 3) := by decide +kernel
theorem pd_9 : parseMethodDescriptor "(I)Ljava/lang/String;" = some ⟨[.int], some (.object "java/lang/String")⟩ := by decide +kernel
theorem pd_10 : parseMethodDescriptor "(Ljava/lang/String;Ljava/lang/String;)V" = some ⟨[(.object "java/lang/String"), (.object "java/lang/String")], none⟩ := by decide +kernel
theorem pd_11 : parseMethodDescriptor "(II)Z" = some ⟨[.int, .int], some .boolean⟩ := by decide +kernel
abbrev EL : List (String × Nat) := [("java/lang/String", 7)]
theorem elA {Z : State} {a0 : Array Value} (H : Ev Z a0) : EW Z a0 EL := (EW.cons (H.1 _ (List.mem_of_getElem? (i := 24) rfl)) (by decide) EW.nil)
theorem strsA {Z : State} {a0 : Array Value} (H : Ev Z a0) : ∀ d ∈ Bundle.stringAtoms, d.before a0 Z = true := fun d hd => H.1 d ((by decide +kernel : ∀ d ∈ Bundle.stringAtoms, d ∈ tables_1) d hd)
/-! Strings of chars 0 to 255 -/
def StrA (Z : State) (h : Heap) (x : Addr) (cs : List Int32) : Prop := Exa Z h x "java/lang/String" ∧ Fld Z h x "java/lang/String" "coder" "B" (.int 0) ∧ (∃ (t : Addr) (kb : ClassId), Fld Z h x "java/lang/String" "value" "[B" (.ref t) ∧ Arv Z h t kb .byte (Int32.ofNat cs.length) ((cs.map fun c => c.toInt8.toInt32).map Value.int) (.int 0)) ∧ (∀ c ∈ cs, ¬ c < 0 ∧ ¬ (255 : Int32) < c) ∧ cs.length ≤ 4000
theorem StrA.ext {Z : State} {h h' : Heap} {x : Addr} {cs : List Int32} (F : StrA Z h x cs) (E : Ext h h') : StrA Z h' x cs := by
  obtain ⟨h1, h2, ⟨t, kb, h3, h4⟩, h5⟩ := F
  exact ⟨h1.ext E, h2.ext E, ⟨t, kb, h3.ext E, h4.ext E⟩, h5⟩
theorem StrA.keepO {Z : State} {h h' : Heap} {x a : Addr} {cs : List Int32} {C : String} {q : Nat} {a0 : Array Value} (F : StrA Z h x cs) (K : Keep h h' [a]) (E : Exa Z h a C) (hC : C ≠ "java/lang/String") (wi : (Cond.instantiable C q).before a0 Z = true) : StrA Z h' x cs := by
  obtain ⟨h1, h2, ⟨t, kb, h3, h4⟩, h5⟩ := F
  have n1 : x ∉ [a] := ninS (fun e => ne_exa E h1 hC e.symm) nin0
  have n2 : t ∉ [a] := ninS (Ne.symm (Exa.neArv E h4 wi)) nin0
  exact ⟨h1.keep K, h2.keep K n1, ⟨t, kb, h3.keep K n1, h4.keep K n2⟩, h5⟩
theorem StrA.lt {Z : State} {h : Heap} {x : Addr} {cs : List Int32} (F : StrA Z h x cs) : x < h.size := F.1.lt
theorem lo8_inj {x y : Int32} (hx : ¬ x < 0 ∧ ¬ (255 : Int32) < x) (hy : ¬ y < 0 ∧ ¬ (255 : Int32) < y) (h : x.toInt8.toInt32 = y.toInt8.toInt32) : x = y := by
  have a := c_i2b x; have b := c_i2b y; have e : (255 : Int32).toInt = 255 := rfl; have e0 : (0 : Int32).toInt = 0 := rfl
  simp only [Int32.lt_iff_toInt_lt] at hx hy
  rw [h] at a
  exact i32e (by omega)
theorem map_inj8 : ∀ (cs ds : List Int32), (∀ c ∈ cs, ¬ c < 0 ∧ ¬ (255 : Int32) < c) → (∀ c ∈ ds, ¬ c < 0 ∧ ¬ (255 : Int32) < c) → (cs.map fun c => c.toInt8.toInt32) = (ds.map fun c => c.toInt8.toInt32) → cs = ds
  | [], [], _, _, _ => rfl
  | [], _ :: _, _, _, h => by simp at h
  | _ :: _, [], _, _, h => by simp at h
  | c :: cs, d :: ds, hc, hd, h => by
    simp only [List.map_cons, List.cons.injEq] at h
    rw [lo8_inj (hc c (List.mem_cons_self ..)) (hd d (List.mem_cons_self ..)) h.1, map_inj8 cs ds (fun x hx => hc x (List.mem_cons_of_mem _ hx)) (fun x hx => hd x (List.mem_cons_of_mem _ hx)) h.2]
theorem n32' {n : Nat} (h : n ≤ 4000) : (Int32.ofNat n).toNatClampNeg = n := by
  have q : n.toInt32.toInt = n := len_toInt (by omega)
  show (Int32.ofNat n).toInt.toNat = n
  have r : (Int32.ofNat n).toInt = n := q
  rw [r]; rfl
theorem StrA.inj {Z : State} {h : Heap} {x : Addr} {cs ds : List Int32} (F : StrA Z h x cs) (G : StrA Z h x ds) : cs = ds := by
  obtain ⟨-, -, ⟨t, kb, h3, c, A, -, S, -, H, -⟩, h5, h6⟩ := F
  obtain ⟨-, -, ⟨t', kb', g3, c', A', -, S', -, H', -⟩, g5, g6⟩ := G
  have et : t = t' := by
    apply Decidable.byContradiction; intro q
    exact Fld.ne h3 g3 (fun e => q (by injection e)) rfl
  subst et
  cases A.1.symm.trans A'.1
  rw [n32' h6] at S; rw [n32' g6] at S'
  have el : cs.length = ds.length := S.symm.trans S'
  apply map_inj8 cs ds h5 g5
  apply List.ext_getElem (by simp [el])
  intro i hi hi'
  simp only [List.length_map] at hi hi'
  have a := H i (by omega); have b := H' i (by omega)
  rw [a] at b
  simpa [List.getD_eq_getElem?_getD, hi, hi'] using b
section StrPay
variable {l : Launch} {R : Room} {p : Program} {e : Env} {below : List Frame} {s : State} {args : Array Value} {Z : State} {a0 : Array Value} {h : Heap} {n0 Wd : Nat} {vm0 : Vm}
theorem payStr (H : Ev Z a0) {x b : Addr} {kC : ClassId} {cs : List Int32} {d v0 c0 : Value} {N : Int32} {nn : Nat} (O : Old Z n0 h) (hx0 : n0 ≤ x) (E : Exa Z h x "java/lang/String") (V : Fld Z h x "java/lang/String" "value" "[B" v0) (C : Fld Z h x "java/lang/String" "coder" "B" c0) (K : Arv Z h b kC .char N (cs.map Value.int) d) (hn : cs.length = nn) (hN : N = Int32.ofNat nn) (l0 : 0 < nn) (l2 : nn ≤ 4000)
    (hp : ∀ c ∈ cs, ¬ c < 0 ∧ ¬ (255 : Int32) < c) (hfr : 4 ≤ R.frames) (hlo : Wd + 65 ≤ R.locals) (hZ : Z.Warmed39 (s.setVm vm0).vm) :
    PayN l R p e below (s.setVm vm0) args (⟨"java/lang/String", "<init>", "([C)V"⟩ : MethodName) 3 Wd #[.ref x, .ref b] h 1 nn (fun v h' L => v = none ∧ (Fr n0 L ∧ Keep h h' [x]) ∧ StrA Z h' x cs) := by
  obtain ⟨z, S, hz⟩ := H.2.1
  refine Back.mono (StrChars.Road.backV (bs := cs.map fun c => c.toInt8.toInt32) (n := nn) (n0 := n0) hZ (fun d hd => H.1 d ((by decide +kernel : ∀ d ∈ StrChars.Road.words, d ∈ tables_1) d hd)) (kI := 4) (H.1 _ (by decide +kernel : Jvm.Cond.instantiable "java/lang/String" 4 ∈ tables_1)) hx0 (by rw [← O.1]; exact O.2.1) E V C K (S.ext O.2) hz hn hN l0 l2 hp rfl hfr hlo) (fun P a hp => hp) (fun P a v B hp' hq => ?_)
  obtain ⟨L, ⟨q1, q2, q3, q4, q5, t, kb, -, -, -, q6, q7⟩, r⟩ := hq
  exact ⟨L, ⟨q1, ⟨q2, q3⟩, q4, q5, ⟨t, kb, q6, by rw [hn, ← hN]; exact q7⟩, hp, by omega⟩, r⟩
theorem payEq (H : Ev Z a0) {x y : Addr} {cs ds : List Int32} (O : Old Z n0 h) (F : StrA Z h x cs) (G : StrA Z h y ds) (hfr : 2 ≤ R.frames) (hlo : Wd + 28 ≤ R.locals) (hZ : Z.Warmed39 (s.setVm vm0).vm) :
    PayN l R p e below (s.setVm vm0) args (⟨"java/lang/String", "equals", "(Ljava/lang/Object;)Z"⟩ : MethodName) 3 Wd #[.ref x, .ref y] h 0 0 (fun v h' L => (v = some (.int (bI (cs = ds))) ∧ h' = h) ∧ L = []) := by
  obtain ⟨z, S, hz⟩ := H.2.1
  obtain ⟨h1, h2, ⟨t, kb, h3, h4⟩, h5, h6⟩ := F
  obtain ⟨g1, g2, ⟨t', kb', g3, g4⟩, g5, g6⟩ := G
  refine Back.mono (StrChars.Road.eqW hZ (fun d hd => H.1 d ((by decide +kernel : ∀ d ∈ StrChars.Road.wordsEq, d ∈ tables_1) d hd)) (kI := 4) (H.1 _ (by decide +kernel : Jvm.Cond.instantiable "java/lang/String" 4 ∈ tables_1)) h1 h3 h2 h4 (StrChars.Road.codOf rfl fun c hc => (h5 c hc).2) (chUp h5) h6 g1 g3 g2 g4 (StrChars.Road.codOf rfl fun c hc => (g5 c hc).2) (chUp g5) g6 (S.ext O.2) hz hfr hlo) (fun P a hp => hp) (fun P a v B hp' hq => ?_)
  obtain ⟨L, ⟨q1, q2, q3⟩, r⟩ := hq
  refine ⟨L, ⟨⟨?_, q3⟩, q2⟩, r⟩
  rcases q1 with ⟨q1, e⟩ | ⟨q1, e⟩
  · rw [q1, bIt e]
  · rw [q1, bI0 e]
end StrPay
def lenI (x : Int32) : Int32 := (XT.ushr x (16 : Int32) &&& (32767 : Int32)) - ((XT.ushr x (16 : Int32) &&& (32767 : Int32)) / (3 : Int32)) * (3 : Int32)
def mkL (x : Int32) : List Int32 := if lenI x = 0 then [] else if lenI x = 1 then [x &&& (255 : Int32)] else [x &&& (255 : Int32), XT.ushr x (8 : Int32) &&& (255 : Int32)]
theorem lenI_cases (x : Int32) : lenI x = 0 ∨ lenI x = 1 ∨ lenI x = 2 := by
  have h := c_and (XT.ushr x 16) 32767 (by decide)
  have e : (32767 : Int32).toInt = 32767 := rfl
  obtain ⟨q, -⟩ := c_irem (XT.ushr x 16 &&& 32767) 3 3 rfl
  have r : (lenI x).toInt = (XT.ushr x 16 &&& 32767).toInt % 3 := by
    rw [← q h.1]; unfold lenI; rw [irem_eq_mod]
  have e0 : (0 : Int32).toInt = 0 := rfl; have e1 : (1 : Int32).toInt = 1 := rfl; have e2 : (2 : Int32).toInt = 2 := rfl
  have b : (lenI x).toInt = 0 ∨ (lenI x).toInt = 1 ∨ (lenI x).toInt = 2 := by omega
  rcases b with b | b | b
  · exact Or.inl (i32e (b.trans e0.symm))
  · exact Or.inr (Or.inl (i32e (b.trans e1.symm)))
  · exact Or.inr (Or.inr (i32e (b.trans e2.symm)))
theorem mkL0 {x : Int32} (h : lenI x = 0) : mkL x = [] := by simp [mkL, h]
theorem mkL1 {x : Int32} (h : ¬ lenI x = 0) (g : lenI x = 1) : mkL x = [x &&& (255 : Int32)] := by simp [mkL, g]
theorem mkL2 {x : Int32} (h : ¬ lenI x = 0) (g : ¬ lenI x = 1) : mkL x = [x &&& (255 : Int32), XT.ushr x (8 : Int32) &&& (255 : Int32)] := by simp [mkL, h, g]
theorem mkL_len {x y : Int32} (h : ¬ lenI x = lenI y) : ¬ mkL x = mkL y := by
  rcases lenI_cases x with a | a | a <;> rcases lenI_cases y with b | b | b <;> first | (exact absurd (a.trans b.symm) h) | simp [mkL, a, b]
theorem mkL_c0 {x y : Int32} (h : lenI x = lenI y) (l : ¬ lenI x < 1) (g : ¬ (x &&& (255 : Int32)) = (y &&& (255 : Int32))) : ¬ mkL x = mkL y := by
  rcases lenI_cases x with a | a | a
  · rw [a] at l; exact absurd (by decide) l
  · have b := h.symm.trans a; simp [mkL, a, b, g]
  · have b := h.symm.trans a; simp [mkL, a, b, g]
theorem mkL_c1 {x y : Int32} (h : lenI x = lenI y) (l : ¬ lenI x < 2) (g : ¬ (XT.ushr x (8 : Int32) &&& (255 : Int32)) = (XT.ushr y (8 : Int32) &&& (255 : Int32))) : ¬ mkL x = mkL y := by
  rcases lenI_cases x with a | a | a
  · rw [a] at l; exact absurd (by decide) l
  · rw [a] at l; exact absurd (by decide) l
  · have b := h.symm.trans a; simp [mkL, a, b, g]
theorem mkL_e0 {x y : Int32} (h : lenI x = lenI y) (l : lenI x < 1) : mkL x = mkL y := by
  rcases lenI_cases x with a | a | a
  · have b := h.symm.trans a; simp [mkL, a, b]
  · rw [a] at l; exact absurd l (by decide)
  · rw [a] at l; exact absurd l (by decide)
theorem mkL_e1 {x y : Int32} (h : lenI x = lenI y) (l : lenI x < 2) (g : (x &&& (255 : Int32)) = (y &&& (255 : Int32))) : mkL x = mkL y := by
  rcases lenI_cases x with a | a | a
  · have b := h.symm.trans a; simp [mkL, a, b]
  · have b := h.symm.trans a; simp [mkL, a, b, g]
  · rw [a] at l; exact absurd l (by decide)
theorem mkL_e2 {x y : Int32} (h : lenI x = lenI y) (g : (x &&& (255 : Int32)) = (y &&& (255 : Int32))) (g' : (XT.ushr x (8 : Int32) &&& (255 : Int32)) = (XT.ushr y (8 : Int32) &&& (255 : Int32))) : mkL x = mkL y := by simp [mkL, h, g, g']
theorem narB (x : Int32) : nar .byte (x.toInt8.toInt32) = x.toInt8.toInt32 := by
  have a := c_i2b x; have b := c_i2b x.toInt8.toInt32
  exact i32e (by show (x.toInt8.toInt32).toInt8.toInt32.toInt = _; omega)
theorem lt_trans1 {x : Int32} (h : x < 1) : x < 2 := by rw [Int32.lt_iff_toInt_lt] at h ⊢; have e1 : (1 : Int32).toInt = 1 := rfl; have e2 : (2 : Int32).toInt = 2 := rfl; omega
theorem ef_ini4 (m : MethodId) (y0 : Addr) (y1 : Addr) (y2 : Int32) (y3 : Int32) : entryFrame m #[(.ref y0), (.ref y1), (.int y2), (.int y3), .null] 6 = mkF m 0 #[.val (.ref y0), .val (.ref y1), .val (.int y2), .val (.int y3), .val .null, .unset] [] := by first | (simp [entryFrame, mkF, argsToLocals, Value.category, maxLocals]; done) | rfl
def Q_ini4 (Z : State) (a1 : Addr) (b1 : Addr) (u1 : Value) (u2 : Value) (h0 : Heap) (v : Option Value) (h : Heap) : Prop := v = none ∧ StrA Z h a1 []
def rm_ini4 : Room := { frames := 1, cells := 4, slots := 8, locals := 12 }
set_option maxRecDepth 65536 in
set_option maxHeartbeats 40000000 in
theorem ct_ini4 {l : Launch} {Z : State} {a0 : Array Value} (H : Ev Z a0) (a1 : Addr) (b1 : Addr) (u1 : Value) (u2 : Value) {h0 : Heap} {n0 : Nat} (O0 : Old Z n0 h0) (E1 : Exa Z h0 a1 "java/lang/String") (g_a1 : n0 ≤ a1) (z_a1 : a1 < h0.size) (F_value : Fld Z h0 a1 "java/lang/String" "value" "[B" u1) (F_coder : Fld Z h0 a1 "java/lang/String" "coder" "B" u2) : CtrW l Z EL (⟨"java/lang/String", "<init>", "([CIILjava/lang/Void;)V"⟩ : MethodName) jdk_42_method_149_code 6 none [] rm_ini4 #[(.ref a1), (.ref b1), (.int (0 : Int32)), (.int (0 : Int32)), .null] h0 [a1] n0 (Q_ini4 Z a1 b1 u1 u2 h0) := by
  refine enterW (a0 := a0) (plainFor_of_name pn_0) (elA H) O0 (allS ⟨g_a1, z_a1⟩ all0) ?_
  intro p e s m below meth c T0 hx hby hml hrt hnm hlk hh0 A0
  replace A0 : Wk true Z a0 EL n0 h0 [a1] "java/lang/String" p l e rm_ini4 s m #[(.ref a1), (.ref b1), (.int (0 : Int32)), (.int (0 : Int32)), .null] below meth c [a1] T0 h0 0 0 := A0
  refine Run.st (T0.setTop (mkF m 0 #[.val (.ref a1), .val (.ref b1), .val (.int (0 : Int32)), .val (.int (0 : Int32)), .val .null, .unset] [])) (fun _ k => castTop (ef_ini4 m a1 b1 (0 : Int32) (0 : Int32)) k) ?_
  refine Run.st (T0.setTop (mkF m 1 #[.val (.ref a1), .val (.ref b1), .val (.int (0 : Int32)), .val (.int (0 : Int32)), .val .null, .unset] [(.ref a1)])) (fun _ k => XS.aloadN A0.here hx rfl (hb hby d0_0) rfl rfl k) ?_
  obtain ⟨T1, A1, st1⟩ := A0.initO hx (tw21 H.1) (tw22 H.1) (tw23 H.1) (g := (mkF m 1 #[.val (.ref a1), .val (.ref b1), .val (.int (0 : Int32)), .val (.int (0 : Int32)), .val .null, .unset] [(.ref a1)])) rfl (by rw [hml]; rfl) rfl (hb hby d0_1) (by decide) (Wd := 0) (by show 2 * 0 + _ ≤ _; exact Nat.le_of_eq rfl) (by decide)
  refine Run.st (T1.setTop (mkF m 4 #[.val (.ref a1), .val (.ref b1), .val (.int (0 : Int32)), .val (.int (0 : Int32)), .val .null, .unset] [])) st1 ?_
  refine Run.st (T1.setTop (mkF m 9 #[.val (.ref a1), .val (.ref b1), .val (.int (0 : Int32)), .val (.int (0 : Int32)), .val .null, .unset] [(.ref a1)])) (fun _ k => XS.iloadN A1.here hx rfl (hb hby d0_4) rfl (XS.ifNo A1.here hx rfl (hb hby d0_5) rfl (by decide) (XS.aloadN A1.here hx rfl (hb hby d0_8) rfl rfl k))) ?_
  obtain ⟨a2, b2, kA2, T2, h2, A2, E2, Ex2, Fc2, Fv2, Va2, ne2, st2⟩ := A1.ldc hx (tw24 H.1) (strsA H) (List.mem_of_getElem? (i := 0) rfl) (vs := (([] : List Int32).map fun c => c.toInt8.toInt32).map Value.int) (z := (0 : Int32)) ⟨by decide, by decide +kernel⟩ (by decide) (by decide +kernel) (g := (mkF m 9 #[.val (.ref a1), .val (.ref b1), .val (.int (0 : Int32)), .val (.int (0 : Int32)), .val .null, .unset] [(.ref a1)])) rfl (hb hby d0_9) (q := 0) (by decide) (by decide) (by decide) (by decide)
  have S2 : StrA Z h2 a2 [] := ⟨Ex2, Fc2, ⟨b2, kA2, Fv2, Va2⟩, by decide, by decide⟩
  refine Run.st (T2.setTop (mkF m 11 #[.val (.ref a1), .val (.ref b1), .val (.int (0 : Int32)), .val (.int (0 : Int32)), .val .null, .unset] [(.ref a2), (.ref a1)])) st2 ?_
  obtain ⟨T3, A3, st3⟩ := A2.getF hx (tw30 H.1) Via.refl Fv2 (g := (mkF m 11 #[.val (.ref a1), .val (.ref b1), .val (.int (0 : Int32)), .val (.int (0 : Int32)), .val .null, .unset] [(.ref a2), (.ref a1)])) rfl rfl (hb hby d0_11)
  refine Run.st (T3.setTop (mkF m 14 #[.val (.ref a1), .val (.ref b1), .val (.int (0 : Int32)), .val (.int (0 : Int32)), .val .null, .unset] [(.ref b2), (.ref a1)])) st3 ?_
  have X5 : Ext h0 h2 := E2
  have f6 := F_value.ext X5
  have f7 := E1.ext X5
  obtain ⟨T4, h4, A4, K4, W4, st4⟩ := A3.putF hx (tw30 H.1) Via.refl (a := a1) (List.mem_of_getElem? (i := 0) rfl) (v' := (.ref b2)) f6 f7 (Or.inr ⟨(tw26 H.1), rfl, hnm⟩) (tw11 H.1) (ty := (.array .byte)) (by decide) rfl rfl (g := (mkF m 14 #[.val (.ref a1), .val (.ref b1), .val (.int (0 : Int32)), .val (.int (0 : Int32)), .val .null, .unset] [(.ref b2), (.ref a1)])) rfl rfl (hb hby d0_14)
  have F4 : Fld Z h4 a1 "java/lang/String" "value" "[B" (.ref b2) := f6.same W4
  refine Run.st (T4.setTop (mkF m 17 #[.val (.ref a1), .val (.ref b1), .val (.int (0 : Int32)), .val (.int (0 : Int32)), .val .null, .unset] [])) st4 ?_
  refine Run.st (T4.setTop (mkF m 18 #[.val (.ref a1), .val (.ref b1), .val (.int (0 : Int32)), .val (.int (0 : Int32)), .val .null, .unset] [(.ref a1)])) (fun _ k => XS.aloadN A4.here hx rfl (hb hby d0_17) rfl rfl k) ?_
  obtain ⟨a8, b8, kA8, T8, h8, A8, E8, Ex8, Fc8, Fv8, Va8, ne8, st8⟩ := A4.ldc hx (tw24 H.1) (strsA H) (List.mem_of_getElem? (i := 0) rfl) (vs := (([] : List Int32).map fun c => c.toInt8.toInt32).map Value.int) (z := (0 : Int32)) ⟨by decide, by decide +kernel⟩ (by decide) (by decide +kernel) (g := (mkF m 18 #[.val (.ref a1), .val (.ref b1), .val (.int (0 : Int32)), .val (.int (0 : Int32)), .val .null, .unset] [(.ref a1)])) rfl (hb hby d0_18) (q := 0) (by decide) (by decide) (by decide) (by decide)
  have S8 : StrA Z h8 a8 [] := ⟨Ex8, Fc8, ⟨b8, kA8, Fv8, Va8⟩, by decide, by decide⟩
  refine Run.st (T8.setTop (mkF m 20 #[.val (.ref a1), .val (.ref b1), .val (.int (0 : Int32)), .val (.int (0 : Int32)), .val .null, .unset] [(.ref a8), (.ref a1)])) st8 ?_
  obtain ⟨T9, A9, st9⟩ := A8.getF hx (tw31 H.1) Via.refl Fc8 (g := (mkF m 20 #[.val (.ref a1), .val (.ref b1), .val (.int (0 : Int32)), .val (.int (0 : Int32)), .val .null, .unset] [(.ref a8), (.ref a1)])) rfl rfl (hb hby d0_20)
  refine Run.st (T9.setTop (mkF m 23 #[.val (.ref a1), .val (.ref b1), .val (.int (0 : Int32)), .val (.int (0 : Int32)), .val .null, .unset] [(.int (0 : Int32)), (.ref a1)])) st9 ?_
  have f11 := (((F_coder.ext E2).other W4 (Or.inr (slot_ne (Or.inr (tw27 H.1)) (Or.inr (tw26 H.1)) (by decide) (t := .byte) (t' := (.array .byte)) (by decide) (by decide)))).ext E8)
  have f12 := (((E1.ext E2).wr W4).ext E8)
  obtain ⟨T10, h10, A10, K10, W10, st10⟩ := A9.putF hx (tw31 H.1) Via.refl (a := a1) (List.mem_of_getElem? (i := 0) rfl) (v' := (.int (0 : Int32))) f11 f12 (Or.inr ⟨(tw27 H.1), rfl, hnm⟩) (tw11 H.1) (ty := .byte) (by decide) rfl rfl (g := (mkF m 23 #[.val (.ref a1), .val (.ref b1), .val (.int (0 : Int32)), .val (.int (0 : Int32)), .val .null, .unset] [(.int (0 : Int32)), (.ref a1)])) rfl rfl (hb hby d0_23)
  have F10 : Fld Z h10 a1 "java/lang/String" "coder" "B" (.int (0 : Int32)) := f11.same W10
  refine Run.st (T10.setTop (mkF m 26 #[.val (.ref a1), .val (.ref b1), .val (.int (0 : Int32)), .val (.int (0 : Int32)), .val .null, .unset] [])) st10 ?_
  have f13 := ((((E1.ext E2).wr W4).ext E8).wr W10)
  have f14 := ((F4.ext E8).other W10 (Or.inr (slot_ne (Or.inr (tw26 H.1)) (Or.inr (tw27 H.1)) (by decide) (t := (.array .byte)) (t' := .byte) (by decide) (by decide))))
  have f15 := (((Va2.keep K4 (ninS (Ne.symm (ne2 a1 (List.mem_of_getElem? (i := 0) rfl)).2) nin0)).ext E8).keep K10 (ninS (Ne.symm (ne2 a1 (List.mem_of_getElem? (i := 0) rfl)).2) nin0))
  exact A10.leaveW hlk hh0 none (fun _ => rfl) (by decide) (by decide) ⟨rfl, f13, F10, ⟨_, _, f14, f15⟩, chs0, by decide⟩ (fun X hr => X.returnOut hx hrt (hb hby d0_26) hr)
theorem ef_ini1 (m : MethodId) (y0 : Addr) (y1 : Addr) : entryFrame m #[(.ref y0), (.ref y1)] 2 = mkF m 0 #[.val (.ref y0), .val (.ref y1)] [] := by first | (simp [entryFrame, mkF, argsToLocals, Value.category, maxLocals]; done) | rfl
def Q_ini1 (Z : State) (a1 : Addr) (b1 : Addr) (u1 : Value) (u2 : Value) (kC : ClassId) (dv : Value) (h0 : Heap) (v : Option Value) (h : Heap) : Prop := v = none ∧ StrA Z h a1 []
def rm_ini1 : Room := { frames := 2, cells := 4, slots := 8, locals := 29 }
set_option maxRecDepth 65536 in
set_option maxHeartbeats 40000000 in
theorem ct_ini1 {l : Launch} {Z : State} {a0 : Array Value} (H : Ev Z a0) (a1 : Addr) (b1 : Addr) (u1 : Value) (u2 : Value) (kC : ClassId) (dv : Value) {h0 : Heap} {n0 : Nat} (O0 : Old Z n0 h0) (E1 : Exa Z h0 a1 "java/lang/String") (g_a1 : n0 ≤ a1) (z_a1 : a1 < h0.size) (F_value : Fld Z h0 a1 "java/lang/String" "value" "[B" u1) (F_coder : Fld Z h0 a1 "java/lang/String" "coder" "B" u2) (Vb1 : Arv Z h0 b1 kC .char (0 : Int32) [] dv) : CtrW l Z EL (⟨"java/lang/String", "<init>", "([C)V"⟩ : MethodName) jdk_42_method_3_code 2 none [] rm_ini1 #[(.ref a1), (.ref b1)] h0 [a1] n0 (Q_ini1 Z a1 b1 u1 u2 kC dv h0) := by
  refine enterW (a0 := a0) (plainFor_of_name pn_0) (elA H) O0 (allS ⟨g_a1, z_a1⟩ all0) ?_
  intro p e s m below meth c T0 hx hby hml hrt hnm hlk hh0 A0
  replace A0 : Wk true Z a0 EL n0 h0 [a1] "java/lang/String" p l e rm_ini1 s m #[(.ref a1), (.ref b1)] below meth c [a1] T0 h0 0 0 := A0
  refine Run.st (T0.setTop (mkF m 0 #[.val (.ref a1), .val (.ref b1)] [])) (fun _ k => castTop (ef_ini1 m a1 b1) k) ?_
  refine Run.st (T0.setTop (mkF m 4 #[.val (.ref a1), .val (.ref b1)] [(.ref b1), (.int (0 : Int32)), (.ref b1), (.ref a1)])) (fun _ k => XS.aloadN A0.here hx rfl (hb hby d1_0) rfl rfl (XS.aloadN A0.here hx rfl (hb hby d1_1) rfl rfl (XS.iconst A0.here hx rfl (hb hby d1_2) (XS.aloadN A0.here hx rfl (hb hby d1_3) rfl rfl k)))) ?_
  refine Run.st (T0.setTop (mkF m 5 #[.val (.ref a1), .val (.ref b1)] [(.int (0 : Int32)), (.int (0 : Int32)), (.ref b1), (.ref a1)])) (A0.alen hx Vb1 (g := (mkF m 4 #[.val (.ref a1), .val (.ref b1)] [(.ref b1), (.int (0 : Int32)), (.ref b1), (.ref a1)])) rfl rfl (hb hby d1_4)) ?_
  refine Run.st (T0.setTop (mkF m 6 #[.val (.ref a1), .val (.ref b1)] [.null, (.int (0 : Int32)), (.int (0 : Int32)), (.ref b1), (.ref a1)])) (fun _ k => XS.aconstNull A0.here hx rfl (hb hby d1_5) k) ?_
  obtain ⟨v16, T16, h16, A16, K16, ⟨L16, Q16⟩, st16⟩ := A0.callIW hx (y := (⟨"java/lang/String", "<init>", "([CIILjava/lang/Void;)V"⟩ : MethodName)) rfl (tw17 H.1) (tw18 H.1) (tw20 H.1) (by decide) (g := (mkF m 6 #[.val (.ref a1), .val (.ref b1)] [.null, (.int (0 : Int32)), (.int (0 : Int32)), (.ref b1), (.ref a1)])) rfl (by rw [hml]; rfl) a1 [(.ref b1), (.int (0 : Int32)), (.int (0 : Int32)), .null] [] (lenOf pd_0 rfl) rfl (Wd := 0) (by show 2 * 0 + _ ≤ _; exact Nat.le_of_eq rfl) (hb hby d1_6) (by decide) (by decide) [a1] (fun _ _ _ q => q.2) (allS (List.mem_of_getElem? (i := 0) rfl) all0) (fun vm0 hZ hE hC hS => payW (ct_ini4 H a1 b1 u1 u2 A0.old E1 (A0.nle (List.mem_of_getElem? (i := 0) rfl)) E1.lt F_value F_coder) (tw20 H.1) (tw12 H.1) (by decide) (by decide) hZ hE hC hS)
  obtain ⟨Q16, N16, -⟩ := Q16
  obtain ⟨rfl, S16⟩ := Q16
  refine Run.st (T16.setTop (mkF m 9 #[.val (.ref a1), .val (.ref b1)] [])) st16 ?_
  exact A16.leaveW hlk hh0 none (fun _ => rfl) (by decide) (by decide) ⟨rfl, S16⟩ (fun X hr => X.returnOut hx hrt (hb hby d1_9) hr)
theorem ef_len (m : MethodId) (y0 : Int32) : entryFrame m #[(.int y0)] 1 = mkF m 0 #[.val (.int y0)] [] := by first | (simp [entryFrame, mkF, argsToLocals, Value.category, maxLocals]; done) | rfl
def Q_len (Z : State) (p0 : Int32) (h0 : Heap) (v : Option Value) (h : Heap) : Prop := v = some (.int (lenI p0)) ∧ h = h0
def rm_len : Room := { frames := 0, cells := 0, slots := 0, locals := 0 }
set_option maxRecDepth 65536 in
set_option maxHeartbeats 40000000 in
theorem ct_len {l : Launch} {Z : State} {a0 : Array Value} (H : Ev Z a0) (p0 : Int32) {h0 : Heap} {n0 : Nat} (O0 : Old Z n0 h0) : CtrN l Z (⟨"com/example/hecate/hecate/HolderEqualsPinLaw", "len", "(I)I"⟩ : MethodName) method_2_code 1 (some .int) [] rm_len #[(.int p0)] h0 [] n0 (Q_len Z p0 h0) := by
  refine enterN (a0 := a0) (plainFor_of_name pn_1) O0 all0 ?_
  intro p e s m below meth c T0 hx hby hml hrt hnm hlk A0
  replace A0 : Wk false Z a0 [] n0 h0 [] "com/example/hecate/hecate/HolderEqualsPinLaw" p l e rm_len s m #[(.int p0)] below meth c [] T0 h0 0 0 := A0
  refine Run.st (T0.setTop (mkF m 0 #[.val (.int p0)] [])) (fun _ k => castTop (ef_len m p0) k) ?_
  refine Run.st (T0.setTop (mkF m 10 #[.val (.int p0)] [(.int (((XT.ushr p0 (16 : Int32)) &&& (32767 : Int32)) - (((XT.ushr p0 (16 : Int32)) &&& (32767 : Int32)) / (3 : Int32)) * (3 : Int32)))])) (fun _ k => XS.iloadN A0.here hx rfl (hb hby d2_0) rfl (XS.bipush A0.here hx rfl (hb hby d2_1) (XT.iushr A0.here hx rfl (hb hby d2_3) rfl (XS.sipush A0.here hx rfl (hb hby d2_4) (XS.iand A0.here hx rfl (hb hby d2_7) rfl (XS.iconst A0.here hx rfl (hb hby d2_8) (XS.irem A0.here hx rfl (hb hby d2_9) rfl (by decide) k))))))) ?_
  exact A0.leaveN hlk (some (.int (((XT.ushr p0 (16 : Int32)) &&& (32767 : Int32)) - (((XT.ushr p0 (16 : Int32)) &&& (32767 : Int32)) / (3 : Int32)) * (3 : Int32)))) (fun q => by rw [hrt] at q; cases q) (by decide) (by decide) ⟨rfl, rfl⟩ (fun X hr => retOut X hx (w := (.int (((XT.ushr p0 (16 : Int32)) &&& (32767 : Int32)) - (((XT.ushr p0 (16 : Int32)) &&& (32767 : Int32)) / (3 : Int32)) * (3 : Int32)))) (t := .int) hrt rfl (Or.inl ⟨rfl, Or.inl rfl, _, rfl⟩) (hb hby d2_10) hr)
theorem ef_ch0 (m : MethodId) (y0 : Int32) : entryFrame m #[(.int y0)] 1 = mkF m 0 #[.val (.int y0)] [] := by first | (simp [entryFrame, mkF, argsToLocals, Value.category, maxLocals]; done) | rfl
def Q_ch0 (Z : State) (p0 : Int32) (h0 : Heap) (v : Option Value) (h : Heap) : Prop := v = some (.int (p0 &&& (255 : Int32))) ∧ h = h0
def rm_ch0 : Room := { frames := 0, cells := 0, slots := 0, locals := 0 }
set_option maxRecDepth 65536 in
set_option maxHeartbeats 40000000 in
theorem ct_ch0 {l : Launch} {Z : State} {a0 : Array Value} (H : Ev Z a0) (p0 : Int32) {h0 : Heap} {n0 : Nat} (O0 : Old Z n0 h0) : CtrN l Z (⟨"com/example/hecate/hecate/HolderEqualsPinLaw", "ch0", "(I)C"⟩ : MethodName) method_3_code 1 (some .char) [] rm_ch0 #[(.int p0)] h0 [] n0 (Q_ch0 Z p0 h0) := by
  refine enterN (a0 := a0) (plainFor_of_name pn_1) O0 all0 ?_
  intro p e s m below meth c T0 hx hby hml hrt hnm hlk A0
  replace A0 : Wk false Z a0 [] n0 h0 [] "com/example/hecate/hecate/HolderEqualsPinLaw" p l e rm_ch0 s m #[(.int p0)] below meth c [] T0 h0 0 0 := A0
  refine Run.st (T0.setTop (mkF m 0 #[.val (.int p0)] [])) (fun _ k => castTop (ef_ch0 m p0) k) ?_
  refine Run.st (T0.setTop (mkF m 6 #[.val (.int p0)] [(.int ((p0 &&& (255 : Int32)).toUInt32.toUInt16.toUInt32.toInt32))])) (fun _ k => XS.iloadN A0.here hx rfl (hb hby d3_0) rfl (XS.sipush A0.here hx rfl (hb hby d3_1) (XS.iand A0.here hx rfl (hb hby d3_4) rfl (XS.i2c A0.here hx rfl (hb hby d3_5) rfl k)))) ?_
  exact A0.leaveN hlk (some (.int (nar .char ((p0 &&& (255 : Int32)).toUInt32.toUInt16.toUInt32.toInt32)))) (fun q => by rw [hrt] at q; cases q) (by decide) (by decide) ⟨(by rw [c8n]), rfl⟩ (fun X hr => retN X hx (t := .char) hrt (by simp) (hb hby d3_6) hr)
theorem ef_ch1 (m : MethodId) (y0 : Int32) : entryFrame m #[(.int y0)] 1 = mkF m 0 #[.val (.int y0)] [] := by first | (simp [entryFrame, mkF, argsToLocals, Value.category, maxLocals]; done) | rfl
def Q_ch1 (Z : State) (p0 : Int32) (h0 : Heap) (v : Option Value) (h : Heap) : Prop := v = some (.int ((XT.ushr p0 (8 : Int32)) &&& (255 : Int32))) ∧ h = h0
def rm_ch1 : Room := { frames := 0, cells := 0, slots := 0, locals := 0 }
set_option maxRecDepth 65536 in
set_option maxHeartbeats 40000000 in
theorem ct_ch1 {l : Launch} {Z : State} {a0 : Array Value} (H : Ev Z a0) (p0 : Int32) {h0 : Heap} {n0 : Nat} (O0 : Old Z n0 h0) : CtrN l Z (⟨"com/example/hecate/hecate/HolderEqualsPinLaw", "ch1", "(I)C"⟩ : MethodName) method_4_code 1 (some .char) [] rm_ch1 #[(.int p0)] h0 [] n0 (Q_ch1 Z p0 h0) := by
  refine enterN (a0 := a0) (plainFor_of_name pn_1) O0 all0 ?_
  intro p e s m below meth c T0 hx hby hml hrt hnm hlk A0
  replace A0 : Wk false Z a0 [] n0 h0 [] "com/example/hecate/hecate/HolderEqualsPinLaw" p l e rm_ch1 s m #[(.int p0)] below meth c [] T0 h0 0 0 := A0
  refine Run.st (T0.setTop (mkF m 0 #[.val (.int p0)] [])) (fun _ k => castTop (ef_ch1 m p0) k) ?_
  refine Run.st (T0.setTop (mkF m 9 #[.val (.int p0)] [(.int (((XT.ushr p0 (8 : Int32)) &&& (255 : Int32)).toUInt32.toUInt16.toUInt32.toInt32))])) (fun _ k => XS.iloadN A0.here hx rfl (hb hby d4_0) rfl (XS.bipush A0.here hx rfl (hb hby d4_1) (XT.iushr A0.here hx rfl (hb hby d4_3) rfl (XS.sipush A0.here hx rfl (hb hby d4_4) (XS.iand A0.here hx rfl (hb hby d4_7) rfl (XS.i2c A0.here hx rfl (hb hby d4_8) rfl k)))))) ?_
  exact A0.leaveN hlk (some (.int (nar .char (((XT.ushr p0 (8 : Int32)) &&& (255 : Int32)).toUInt32.toUInt16.toUInt32.toInt32)))) (fun q => by rw [hrt] at q; cases q) (by decide) (by decide) ⟨(by rw [c8n]), rfl⟩ (fun X hr => retN X hx (t := .char) hrt (by simp) (hb hby d4_9) hr)
theorem ef_canenc (m : MethodId) (y0 : Int32) : entryFrame m #[(.int y0)] 1 = mkF m 0 #[.val (.int y0)] [] := by first | (simp [entryFrame, mkF, argsToLocals, Value.category, maxLocals]; done) | rfl
def Q_canenc (Z : State) (p0 : Int32) (h0 : Heap) (v : Option Value) (h : Heap) : Prop := v = some (.int 1) ∧ h = h0
def rm_canenc : Room := { frames := 0, cells := 0, slots := 0, locals := 0 }
set_option maxRecDepth 65536 in
set_option maxHeartbeats 40000000 in
theorem ct_canenc {l : Launch} {Z : State} {a0 : Array Value} (H : Ev Z a0) (p0 : Int32) {h0 : Heap} {n0 : Nat} (O0 : Old Z n0 h0) (hc : ¬ p0 < 0 ∧ ¬ (255 : Int32) < p0) : CtrN l Z (⟨"java/lang/StringLatin1", "canEncode", "(C)Z"⟩ : MethodName) jdk_43_method_3_code 1 (some .boolean) [] rm_canenc #[(.int p0)] h0 [] n0 (Q_canenc Z p0 h0) := by
  refine enterN (a0 := a0) (plainFor_of_name pn_2) O0 all0 ?_
  intro p e s m below meth c T0 hx hby hml hrt hnm hlk A0
  replace A0 : Wk false Z a0 [] n0 h0 [] "java/lang/StringLatin1" p l e rm_canenc s m #[(.int p0)] below meth c [] T0 h0 0 0 := A0
  refine Run.st (T0.setTop (mkF m 0 #[.val (.int p0)] [])) (fun _ k => castTop (ef_canenc m p0) k) ?_
  refine Run.st (T0.setTop (mkF m 12 #[.val (.int p0)] [(.int (1 : Int32))])) (fun _ k => XS.iloadN A0.here hx rfl (hb hby d5_0) rfl (XS.sipush A0.here hx rfl (hb hby d5_1) (XS.icmpNo A0.here hx rfl (hb hby d5_4) rfl (flt hc.2).2.2.1 (XS.iconst A0.here hx rfl (hb hby d5_7) (XS.goto A0.here hx rfl (pc0 := 8) (pc' := 12) rfl (hb hby d5_8) (by decide) (by decide) k))))) ?_
  exact A0.leaveN hlk (some (.int (1 : Int32))) (fun q => by rw [hrt] at q; cases q) (by decide) (by decide) ⟨rfl, rfl⟩ (fun X hr => retN X hx (t := .boolean) hrt (by simp) (hb hby d5_12) hr)
theorem ef_tobytes (m : MethodId) (y0 : Int32) : entryFrame m #[(.int y0)] 1 = mkF m 0 #[.val (.int y0)] [] := by first | (simp [entryFrame, mkF, argsToLocals, Value.category, maxLocals]; done) | rfl
def Q_tobytes (Z : State) (p0 : Int32) (h0 : Heap) (v : Option Value) (h : Heap) : Prop := ∃ (t : Addr) (kb : ClassId), v = some (.ref t) ∧ Ext h0 h ∧ Arv Z h t kb .byte (1 : Int32) [(.int (p0.toInt8.toInt32))] (.int (0 : Int32))
def rm_tobytes : Room := { frames := 0, cells := 1, slots := 1, locals := 0 }
set_option maxRecDepth 65536 in
set_option maxHeartbeats 40000000 in
theorem ct_tobytes {l : Launch} {Z : State} {a0 : Array Value} (H : Ev Z a0) (p0 : Int32) {h0 : Heap} {n0 : Nat} (O0 : Old Z n0 h0) : CtrN l Z (⟨"java/lang/StringLatin1", "toBytes", "(C)[B"⟩ : MethodName) jdk_43_method_46_code 1 (some (.array .byte)) [] rm_tobytes #[(.int p0)] h0 [] n0 (Q_tobytes Z p0 h0) := by
  refine enterN (a0 := a0) (plainFor_of_name pn_2) O0 all0 ?_
  intro p e s m below meth c T0 hx hby hml hrt hnm hlk A0
  replace A0 : Wk false Z a0 [] n0 h0 [] "java/lang/StringLatin1" p l e rm_tobytes s m #[(.int p0)] below meth c [] T0 h0 0 0 := A0
  refine Run.st (T0.setTop (mkF m 0 #[.val (.int p0)] [])) (fun _ k => castTop (ef_tobytes m p0) k) ?_
  refine Run.st (T0.setTop (mkF m 1 #[.val (.int p0)] [(.int (1 : Int32))])) (fun _ k => XS.iconst A0.here hx rfl (hb hby d6_0) k) ?_
  obtain ⟨a17, T17, h17, kA17, A17, E17, g17, V17, st17⟩ := A0.newP hx (aty := .byte) (N := (1 : Int32)) (tw25 H.1) (g := (mkF m 1 #[.val (.int p0)] [(.int (1 : Int32))])) rfl (hb hby d6_1) rfl (by decide) (cap := 1) (by decide) (by decide) (by decide) (by decide)
  refine Run.st (T17.setTop (mkF m 3 #[.val (.int p0)] [(.ref a17)])) st17 ?_
  refine Run.st (T17.setTop (mkF m 7 #[.val (.int p0)] [(.int (p0.toInt8.toInt32)), (.int (0 : Int32)), (.ref a17), (.ref a17)])) (fun _ k => XS.dup A17.here hx rfl (hb hby d6_3) rfl rfl (XS.iconst A17.here hx rfl (hb hby d6_4) (XS.iloadN A17.here hx rfl (hb hby d6_5) rfl (XS.i2b A17.here hx rfl (hb hby d6_6) rfl k)))) ?_
  obtain ⟨T18, h18, A18, K18, V18, st18⟩ := A17.stB hx V17 (List.mem_of_getElem? (i := 0) rfl) (j := (0 : Int32)) 0 rfl ⟨by decide, by decide⟩ (Nat.le_of_ble_eq_true rfl) (fitsNB _) (g := (mkF m 7 #[.val (.int p0)] [(.int (p0.toInt8.toInt32)), (.int (0 : Int32)), (.ref a17), (.ref a17)])) rfl rfl (hb hby d6_7)
  refine Run.st (T18.setTop (mkF m 8 #[.val (.int p0)] [(.ref a17)])) st18 ?_
  have Vt : Arv Z h18 a17 kA17 .byte (1 : Int32) [(.int (nar .byte (p0.toInt8.toInt32)))] (.int (0 : Int32)) := V18
  rw [narB] at Vt
  exact A18.leaveN hlk (some (.ref a17)) (fun q => by rw [hrt] at q; cases q) (by decide) (by decide) ⟨_, _, rfl, keepE A18.keep, Vt⟩ (fun X hr => retOut X hx (w := (.ref a17)) (t := (.array .byte)) hrt rfl (Or.inr (Or.inr (Or.inr (Or.inr ⟨rfl, rfl, rfl⟩)))) (hb hby d6_8) hr)
theorem ef_inibb (m : MethodId) (y0 : Addr) (y1 : Addr) (y2 : Int32) : entryFrame m #[(.ref y0), (.ref y1), (.int y2)] 3 = mkF m 0 #[.val (.ref y0), .val (.ref y1), .val (.int y2)] [] := by first | (simp [entryFrame, mkF, argsToLocals, Value.category, maxLocals]; done) | rfl
def Q_inibb (Z : State) (a1 : Addr) (b1 : Addr) (u1 : Value) (u2 : Value) (h0 : Heap) (v : Option Value) (h : Heap) : Prop := v = none ∧ Exa Z h a1 "java/lang/String" ∧ Fld Z h a1 "java/lang/String" "coder" "B" (.int 0) ∧ Fld Z h a1 "java/lang/String" "value" "[B" (.ref b1)
def rm_inibb : Room := { frames := 1, cells := 0, slots := 0, locals := 12 }
set_option maxRecDepth 65536 in
set_option maxHeartbeats 40000000 in
theorem ct_inibb {l : Launch} {Z : State} {a0 : Array Value} (H : Ev Z a0) (a1 : Addr) (b1 : Addr) (u1 : Value) (u2 : Value) {h0 : Heap} {n0 : Nat} (O0 : Old Z n0 h0) (E1 : Exa Z h0 a1 "java/lang/String") (g_a1 : n0 ≤ a1) (z_a1 : a1 < h0.size) (F_value : Fld Z h0 a1 "java/lang/String" "value" "[B" u1) (F_coder : Fld Z h0 a1 "java/lang/String" "coder" "B" u2) : CtrN l Z (⟨"java/lang/String", "<init>", "([BB)V"⟩ : MethodName) jdk_42_method_151_code 3 none [] rm_inibb #[(.ref a1), (.ref b1), (.int (0 : Int32))] h0 [a1] n0 (Q_inibb Z a1 b1 u1 u2 h0) := by
  refine enterN (a0 := a0) (plainFor_of_name pn_0) O0 (allS ⟨g_a1, z_a1⟩ all0) ?_
  intro p e s m below meth c T0 hx hby hml hrt hnm hlk A0
  replace A0 : Wk false Z a0 [] n0 h0 [a1] "java/lang/String" p l e rm_inibb s m #[(.ref a1), (.ref b1), (.int (0 : Int32))] below meth c [a1] T0 h0 0 0 := A0
  refine Run.st (T0.setTop (mkF m 0 #[.val (.ref a1), .val (.ref b1), .val (.int (0 : Int32))] [])) (fun _ k => castTop (ef_inibb m a1 b1 (0 : Int32)) k) ?_
  refine Run.st (T0.setTop (mkF m 1 #[.val (.ref a1), .val (.ref b1), .val (.int (0 : Int32))] [(.ref a1)])) (fun _ k => XS.aloadN A0.here hx rfl (hb hby d7_0) rfl rfl k) ?_
  obtain ⟨T19, A19, st19⟩ := A0.initO hx (tw21 H.1) (tw22 H.1) (tw23 H.1) (g := (mkF m 1 #[.val (.ref a1), .val (.ref b1), .val (.int (0 : Int32))] [(.ref a1)])) rfl (by rw [hml]; rfl) rfl (hb hby d7_1) (by decide) (Wd := 0) (by show 2 * 0 + _ ≤ _; exact Nat.le_of_eq rfl) (by decide)
  refine Run.st (T19.setTop (mkF m 4 #[.val (.ref a1), .val (.ref b1), .val (.int (0 : Int32))] [])) st19 ?_
  refine Run.st (T19.setTop (mkF m 6 #[.val (.ref a1), .val (.ref b1), .val (.int (0 : Int32))] [(.ref b1), (.ref a1)])) (fun _ k => XS.aloadN A19.here hx rfl (hb hby d7_4) rfl rfl (XS.aloadN A19.here hx rfl (hb hby d7_5) rfl rfl k)) ?_
  obtain ⟨T20, h20, A20, K20, W20, st20⟩ := A19.putF hx (tw30 H.1) Via.refl (a := a1) (List.mem_of_getElem? (i := 0) rfl) (v' := (.ref b1)) F_value E1 (Or.inr ⟨(tw26 H.1), rfl, hnm⟩) (tw11 H.1) (ty := (.array .byte)) (by decide) rfl rfl (g := (mkF m 6 #[.val (.ref a1), .val (.ref b1), .val (.int (0 : Int32))] [(.ref b1), (.ref a1)])) rfl rfl (hb hby d7_6)
  have F20 : Fld Z h20 a1 "java/lang/String" "value" "[B" (.ref b1) := F_value.same W20
  refine Run.st (T20.setTop (mkF m 9 #[.val (.ref a1), .val (.ref b1), .val (.int (0 : Int32))] [])) st20 ?_
  refine Run.st (T20.setTop (mkF m 11 #[.val (.ref a1), .val (.ref b1), .val (.int (0 : Int32))] [(.int (0 : Int32)), (.ref a1)])) (fun _ k => XS.aloadN A20.here hx rfl (hb hby d7_9) rfl rfl (XS.iloadN A20.here hx rfl (hb hby d7_10) rfl k)) ?_
  have f22 := (F_coder.other W20 (Or.inr (slot_ne (Or.inr (tw27 H.1)) (Or.inr (tw26 H.1)) (by decide) (t := .byte) (t' := (.array .byte)) (by decide) (by decide))))
  have f23 := (E1.wr W20)
  obtain ⟨T21, h21, A21, K21, W21, st21⟩ := A20.putF hx (tw31 H.1) Via.refl (a := a1) (List.mem_of_getElem? (i := 0) rfl) (v' := (.int (0 : Int32))) f22 f23 (Or.inr ⟨(tw27 H.1), rfl, hnm⟩) (tw11 H.1) (ty := .byte) (by decide) rfl rfl (g := (mkF m 11 #[.val (.ref a1), .val (.ref b1), .val (.int (0 : Int32))] [(.int (0 : Int32)), (.ref a1)])) rfl rfl (hb hby d7_11)
  have F21 : Fld Z h21 a1 "java/lang/String" "coder" "B" (.int (0 : Int32)) := f22.same W21
  refine Run.st (T21.setTop (mkF m 14 #[.val (.ref a1), .val (.ref b1), .val (.int (0 : Int32))] [])) st21 ?_
  have f24 := ((E1.wr W20).wr W21)
  have f25 := (F20.other W21 (Or.inr (slot_ne (Or.inr (tw26 H.1)) (Or.inr (tw27 H.1)) (by decide) (t := (.array .byte)) (t' := .byte) (by decide) (by decide))))
  exact A21.leaveN hlk none (fun _ => rfl) (by decide) (by decide) ⟨rfl, f24, F21, f25⟩ (fun X hr => X.returnOut hx hrt (hb hby d7_14) hr)
theorem ef_valueof (m : MethodId) (y0 : Int32) : entryFrame m #[(.int y0)] 1 = mkF m 0 #[.val (.int y0)] [] := by first | (simp [entryFrame, mkF, argsToLocals, Value.category, maxLocals]; done) | rfl
def Q_valueof (Z : State) (p0 : Int32) (h0 : Heap) (v : Option Value) (h : Heap) : Prop := ∃ a : Addr, v = some (.ref a) ∧ Ext h0 h ∧ StrA Z h a [p0]
def rm_valueof : Room := { frames := 2, cells := 2, slots := 5, locals := 27 }
set_option maxRecDepth 65536 in
set_option maxHeartbeats 40000000 in
theorem ct_valueof {l : Launch} {Z : State} {a0 : Array Value} (H : Ev Z a0) (p0 : Int32) {h0 : Heap} {n0 : Nat} (O0 : Old Z n0 h0) (hc : ¬ p0 < 0 ∧ ¬ (255 : Int32) < p0) : CtrN l Z (⟨"java/lang/String", "valueOf", "(C)Ljava/lang/String;"⟩ : MethodName) jdk_42_method_139_code 1 (some (.object "java/lang/String")) [] rm_valueof #[(.int p0)] h0 [] n0 (Q_valueof Z p0 h0) := by
  refine enterN (a0 := a0) (plainFor_of_name pn_0) O0 all0 ?_
  intro p e s m below meth c T0 hx hby hml hrt hnm hlk A0
  replace A0 : Wk false Z a0 [] n0 h0 [] "java/lang/String" p l e rm_valueof s m #[(.int p0)] below meth c [] T0 h0 0 0 := A0
  refine Run.st (T0.setTop (mkF m 0 #[.val (.int p0)] [])) (fun _ k => castTop (ef_valueof m p0) k) ?_
  obtain ⟨zc, Sc, hzc⟩ := H.2.1
  obtain ⟨T26, A26, st26⟩ := A0.getS hx (tw56 H.1) Via.refl (Sc.ext A0.old.2) (g := (mkF m 0 #[.val (.int p0)] [])) rfl (hb hby d8_0)
  refine Run.st (T26.setTop (mkF m 3 #[.val (.int p0)] [(.int zc)])) st26 ?_
  refine Run.st (T26.setTop (mkF m 7 #[.val (.int p0)] [(.int p0)])) (fun _ k => XS.ifNo A26.here hx rfl (hb hby d8_3) rfl (by rw [if0]; exact (feq hzc).1) (XS.iloadN A26.here hx rfl (hb hby d8_6) rfl k)) ?_
  obtain ⟨v27, T27, h27, AA27, K27, ⟨L27, Q27⟩, st27⟩ := A26.callS hx (tw69 H.1) (tw70 H.1) (tw59 H.1) (tw71 H.1) (by decide) (g := (mkF m 7 #[.val (.int p0)] [(.int p0)])) rfl (by rw [hml]; rfl) [(.int p0)] [] (lenOf pd_1 rfl) rfl (Wd := 0) (by show 2 * 0 + _ ≤ _; exact Nat.le_of_eq rfl) (hb hby d8_7) (by decide) (by decide) [] (fun _ _ _ q => q.2) all0 (fun vm0 hZ => payN (ct_canenc H p0 A26.old hc) (tw71 H.1) (tw59 H.1) (by decide) (by decide) hZ)
  obtain ⟨Q27, N27, -⟩ := Q27
  obtain ⟨rfl, q27⟩ := Q27
  have q27 := q27.symm
  subst q27
  have A27 := AA27 [] all0
  refine Run.st (T27.setTop (mkF m 10 #[.val (.int p0)] [(.int (1 : Int32))])) st27 ?_
  refine Run.st (T27.setTop (mkF m 13 #[.val (.int p0)] [])) (fun _ k => XS.ifNo A27.here hx rfl (hb hby d8_10) rfl (by decide) k) ?_
  obtain ⟨a28, T28, h28, A28, E28, g28, Ex28, D28, st28⟩ := A27.newO hx (tw55 H.1) (tw11 H.1) (tw12 H.1) (g := (mkF m 13 #[.val (.int p0)] [])) rfl (hb hby d8_13) (by decide) (by decide)
  refine Run.st (T28.setTop (mkF m 16 #[.val (.int p0)] [(.ref a28)])) st28 ?_
  refine Run.st (T28.setTop (mkF m 18 #[.val (.int p0)] [(.int p0), (.ref a28), (.ref a28)])) (fun _ k => XS.dup A28.here hx rfl (hb hby d8_16) rfl rfl (XS.iloadN A28.here hx rfl (hb hby d8_17) rfl k)) ?_
  obtain ⟨v29, T29, h29, AA29, K29, ⟨L29, Q29⟩, st29⟩ := A28.callS hx (tw72 H.1) (tw73 H.1) (tw59 H.1) (tw74 H.1) (by decide) (g := (mkF m 18 #[.val (.int p0)] [(.int p0), (.ref a28), (.ref a28)])) rfl (by rw [hml]; rfl) [(.int p0)] [(.ref a28), (.ref a28)] (lenOf pd_2 rfl) rfl (Wd := 2) (by show 2 * 0 + _ ≤ _; exact Nat.le_of_eq rfl) (hb hby d8_18) (by decide) (by decide) [] (fun _ _ _ q => q.2) all0 (fun vm0 hZ => payN (ct_tobytes H p0 A28.old) (tw74 H.1) (tw59 H.1) (by decide) (by decide) hZ)
  obtain ⟨Q29, N29, -⟩ := Q29
  obtain ⟨t29, kb29, rfl, X29, Vt29⟩ := Q29
  have A29 := AA29 [] all0
  refine Run.st (T29.setTop (mkF m 21 #[.val (.int p0)] [(.ref t29), (.ref a28), (.ref a28)])) st29 ?_
  refine Run.st (T29.setTop (mkF m 22 #[.val (.int p0)] [(.int (0 : Int32)), (.ref t29), (.ref a28), (.ref a28)])) (fun _ k => XS.iconst A29.here hx rfl (hb hby d8_21) k) ?_
  have F31 : Fld Z h28 a28 "java/lang/String" "value" "[B" .null := D28 (Or.inr (tw26 H.1)) (ty := (.array .byte)) (by decide)
  have F32 : Fld Z h28 a28 "java/lang/String" "coder" "B" (.int 0) := D28 (Or.inr (tw27 H.1)) (ty := .byte) (by decide)
  have X33 : Ext h28 h29 := X29
  have f34 := Ex28.ext X33
  have f35 := F31.ext X33
  have f36 := F32.ext X33
  obtain ⟨v30, T30, h30, AA30, K30, ⟨L30, Q30⟩, st30⟩ := A29.callI hx (y := (⟨"java/lang/String", "<init>", "([BB)V"⟩ : MethodName)) rfl (tw75 H.1) (tw76 H.1) (tw77 H.1) (by decide) (g := (mkF m 22 #[.val (.int p0)] [(.int (0 : Int32)), (.ref t29), (.ref a28), (.ref a28)])) rfl (by rw [hml]; rfl) a28 [(.ref t29), (.int (0 : Int32))] [(.ref a28)] (lenOf pd_3 rfl) rfl (Wd := 1) (by show 2 * 0 + _ ≤ _; exact Nat.le_of_eq rfl) (hb hby d8_22) (by decide) (by decide) [a28] (fun _ _ _ q => q.2) (allS (List.mem_of_getElem? (i := 0) rfl) all0) (fun vm0 hZ => payN (ct_inibb H a28 t29 .null (.int 0) A29.old f34 (A29.nle (List.mem_of_getElem? (i := 0) rfl)) f34.lt f35 f36) (tw77 H.1) (tw12 H.1) (by decide) (by decide) hZ)
  obtain ⟨Q30, N30, -⟩ := Q30
  obtain ⟨rfl, Ec30, Fk30, Fv30⟩ := Q30
  have A30 := AA30 [] all0
  refine Run.st (T30.setTop (mkF m 25 #[.val (.int p0)] [(.ref a28)])) st30 ?_
  have f37 := (Vt29.keep K30 (ninS (Ne.symm (Exa.neArv f34 Vt29 (tw11 H.1))) nin0))
  exact A30.leaveN hlk (some (.ref a28)) (fun q => by rw [hrt] at q; cases q) (by decide) (by decide) ⟨_, rfl, keepE A30.keep, Ec30, Fk30, ⟨_, _, Fv30, f37⟩, chsS hc chs0, Nat.le_of_ble_eq_true rfl⟩ (fun X hr => retOut X hx (w := (.ref a28)) (t := (.object "java/lang/String")) hrt rfl (Or.inr (Or.inr (Or.inr (Or.inr ⟨rfl, rfl, rfl⟩)))) (hb hby d8_25) hr)
theorem ef_mk (m : MethodId) (y0 : Int32) : entryFrame m #[(.int y0)] 3 = mkF m 0 #[.val (.int y0), .unset, .unset] [] := by first | (simp [entryFrame, mkF, argsToLocals, Value.category, maxLocals]; done) | rfl
def Q_mk (Z : State) (p0 : Int32) (h0 : Heap) (v : Option Value) (h : Heap) : Prop := ∃ a : Addr, v = some (.ref a) ∧ Ext h0 h ∧ StrA Z h a (mkL p0)
def rm_mk : Room := { frames := 4, cells := 6, slots := 12, locals := 66 }
set_option maxRecDepth 65536 in
set_option maxHeartbeats 40000000 in
theorem ct_mk {l : Launch} {Z : State} {a0 : Array Value} (H : Ev Z a0) (p0 : Int32) {h0 : Heap} {n0 : Nat} (O0 : Old Z n0 h0) : CtrW l Z EL (⟨"com/example/hecate/hecate/HolderEqualsPinLaw", "mk", "(I)Ljava/lang/String;"⟩ : MethodName) method_5_code 3 (some (.object "java/lang/String")) [] rm_mk #[(.int p0)] h0 [] n0 (Q_mk Z p0 h0) := by
  refine enterW (a0 := a0) (plainFor_of_name pn_1) (elA H) O0 all0 ?_
  intro p e s m below meth c T0 hx hby hml hrt hnm hlk hh0 A0
  replace A0 : Wk true Z a0 EL n0 h0 [] "com/example/hecate/hecate/HolderEqualsPinLaw" p l e rm_mk s m #[(.int p0)] below meth c [] T0 h0 0 0 := A0
  refine Run.st (T0.setTop (mkF m 0 #[.val (.int p0), .unset, .unset] [])) (fun _ k => castTop (ef_mk m p0) k) ?_
  refine Run.st (T0.setTop (mkF m 1 #[.val (.int p0), .unset, .unset] [(.int p0)])) (fun _ k => XS.iloadN A0.here hx rfl (hb hby d9_0) rfl k) ?_
  obtain ⟨v38, T38, h38, AA38, K38, ⟨L38, Q38⟩, st38⟩ := A0.callS hx (tw7 H.1) (tw8 H.1) (tw5 H.1) (tw9 H.1) (by decide) (g := (mkF m 1 #[.val (.int p0), .unset, .unset] [(.int p0)])) rfl (by rw [hml]; rfl) [(.int p0)] [] (lenOf pd_4 rfl) rfl (Wd := 0) (by show 2 * 0 + _ ≤ _; exact Nat.le_of_eq rfl) (hb hby d9_1) (by decide) (by decide) [] (fun _ _ _ q => q.2) all0 (fun vm0 hZ => payN (ct_len H p0 A0.old) (tw9 H.1) (tw5 H.1) (by decide) (by decide) hZ)
  obtain ⟨Q38, N38, -⟩ := Q38
  obtain ⟨rfl, q38⟩ := Q38
  have q38 := q38.symm
  subst q38
  have A38 := AA38 [] all0
  refine Run.st (T38.setTop (mkF m 4 #[.val (.int p0), .unset, .unset] [(.int (lenI p0))])) st38 ?_
  refine Run.st (T38.setTop (mkF m 6 #[.val (.int p0), .val (.int (lenI p0)), .unset] [(.int (lenI p0))])) (fun _ k => XS.istoreN A38.here hx rfl (hb hby d9_4) rfl (l' := #[.val (.int p0), .val (.int (lenI p0)), .unset]) rfl (XS.iloadN A38.here hx rfl (hb hby d9_5) rfl k)) ?_
  by_cases c39 : (lenI p0) = (0 : Int32)
  · refine Run.st (T38.setTop (mkF m 9 #[.val (.int p0), .val (.int (lenI p0)), .unset] [])) (fun _ k => XS.ifNo A38.here hx rfl (hb hby d9_6) rfl (by rw [if0]; exact (teq c39).2) k) ?_
    obtain ⟨a40, T40, h40, A40, E40, g40, Ex40, D40, st40⟩ := A38.newO hx (tw10 H.1) (tw11 H.1) (tw12 H.1) (g := (mkF m 9 #[.val (.int p0), .val (.int (lenI p0)), .unset] [])) rfl (hb hby d9_9) (by decide) (by decide)
    refine Run.st (T40.setTop (mkF m 12 #[.val (.int p0), .val (.int (lenI p0)), .unset] [(.ref a40)])) st40 ?_
    refine Run.st (T40.setTop (mkF m 14 #[.val (.int p0), .val (.int (lenI p0)), .unset] [(.int (0 : Int32)), (.ref a40), (.ref a40)])) (fun _ k => XS.dup A40.here hx rfl (hb hby d9_12) rfl rfl (XS.iconst A40.here hx rfl (hb hby d9_13) k)) ?_
    obtain ⟨a41, T41, h41, kA41, A41, E41, g41, V41, st41⟩ := A40.newP hx (aty := .char) (N := (0 : Int32)) (tw13 H.1) (g := (mkF m 14 #[.val (.int p0), .val (.int (lenI p0)), .unset] [(.int (0 : Int32)), (.ref a40), (.ref a40)])) rfl (hb hby d9_14) rfl (by decide) (cap := 0) (by decide) (by decide) (by decide) (by decide)
    refine Run.st (T41.setTop (mkF m 16 #[.val (.int p0), .val (.int (lenI p0)), .unset] [(.ref a41), (.ref a40), (.ref a40)])) st41 ?_
    have F43 : Fld Z h40 a40 "java/lang/String" "value" "[B" .null := D40 (Or.inr (tw26 H.1)) (ty := (.array .byte)) (by decide)
    have F44 : Fld Z h40 a40 "java/lang/String" "coder" "B" (.int 0) := D40 (Or.inr (tw27 H.1)) (ty := .byte) (by decide)
    have X45 : Ext h40 h41 := E41
    have f46 := Ex40.ext X45
    have f47 := F43.ext X45
    have f48 := F44.ext X45
    obtain ⟨v42, T42, h42, A42, K42, ⟨L42, Q42⟩, st42⟩ := A41.callIW hx (y := (⟨"java/lang/String", "<init>", "([C)V"⟩ : MethodName)) rfl (tw14 H.1) (tw15 H.1) (tw16 H.1) (by decide) (g := (mkF m 16 #[.val (.int p0), .val (.int (lenI p0)), .unset] [(.ref a41), (.ref a40), (.ref a40)])) rfl (by rw [hml]; rfl) a40 [(.ref a41)] [(.ref a40)] (lenOf pd_5 rfl) rfl (Wd := 1) (by show 2 * 0 + _ ≤ _; exact Nat.le_of_eq rfl) (hb hby d9_16) (by decide) (by decide) [a40] (fun _ _ _ q => q.2) (allS (List.mem_of_getElem? (i := 1) rfl) all0) (fun vm0 hZ hE hC hS => payW (ct_ini1 H a40 a41 .null (.int 0) _ _ A41.old f46 (A41.nle (List.mem_of_getElem? (i := 1) rfl)) f46.lt f47 f48 V41) (tw16 H.1) (tw12 H.1) (by decide) (by decide) hZ hE hC hS)
    obtain ⟨Q42, N42, -⟩ := Q42
    obtain ⟨rfl, S42⟩ := Q42
    refine Run.st (T42.setTop (mkF m 19 #[.val (.int p0), .val (.int (lenI p0)), .unset] [(.ref a40)])) st42 ?_
    exact A42.leaveW hlk hh0 (some (.ref a40)) (fun q => by rw [hrt] at q; cases q) (by decide) (by decide) ⟨_, rfl, keepE A42.keep, by rw [mkL0 c39]; exact S42⟩ (fun X hr => retOut X hx (w := (.ref a40)) (t := (.object "java/lang/String")) hrt rfl (Or.inr (Or.inr (Or.inr (Or.inr ⟨rfl, rfl, rfl⟩)))) (hb hby d9_19) hr)
  · refine Run.st (T38.setTop (mkF m 22 #[.val (.int p0), .val (.int (lenI p0)), .unset] [(.int (1 : Int32)), (.int (lenI p0))])) (fun _ k => XS.ifYes A38.here hx rfl (pc0 := 6) (pc' := 20) rfl (hb hby d9_6) rfl (by rw [if0]; exact (feq c39).2) (by decide) (by decide) (XS.iloadN A38.here hx rfl (hb hby d9_20) rfl (XS.iconst A38.here hx rfl (hb hby d9_21) k))) ?_
    by_cases c49 : (lenI p0) = (1 : Int32)
    · refine Run.st (T38.setTop (mkF m 26 #[.val (.int p0), .val (.int (lenI p0)), .unset] [(.int p0)])) (fun _ k => XS.icmpNo A38.here hx rfl (hb hby d9_22) rfl (teq c49).2 (XS.iloadN A38.here hx rfl (hb hby d9_25) rfl k)) ?_
      obtain ⟨v50, T50, h50, AA50, K50, ⟨L50, Q50⟩, st50⟩ := A38.callS hx (tw63 H.1) (tw64 H.1) (tw5 H.1) (tw65 H.1) (by decide) (g := (mkF m 26 #[.val (.int p0), .val (.int (lenI p0)), .unset] [(.int p0)])) rfl (by rw [hml]; rfl) [(.int p0)] [] (lenOf pd_6 rfl) rfl (Wd := 0) (by show 2 * 0 + _ ≤ _; exact Nat.le_of_eq rfl) (hb hby d9_26) (by decide) (by decide) [] (fun _ _ _ q => q.2) all0 (fun vm0 hZ => payN (ct_ch0 H p0 A38.old) (tw65 H.1) (tw5 H.1) (by decide) (by decide) hZ)
      obtain ⟨Q50, N50, -⟩ := Q50
      obtain ⟨rfl, q50⟩ := Q50
      have q50 := q50.symm
      subst q50
      have A50 := AA50 [] all0
      refine Run.st (T50.setTop (mkF m 29 #[.val (.int p0), .val (.int (lenI p0)), .unset] [(.int (p0 &&& (255 : Int32)))])) st50 ?_
      obtain ⟨v51, T51, h51, AA51, K51, ⟨L51, Q51⟩, st51⟩ := A50.callS hx (tw66 H.1) (tw67 H.1) (tw12 H.1) (tw68 H.1) (by decide) (g := (mkF m 29 #[.val (.int p0), .val (.int (lenI p0)), .unset] [(.int (p0 &&& (255 : Int32)))])) rfl (by rw [hml]; rfl) [(.int (p0 &&& (255 : Int32)))] [] (lenOf pd_7 rfl) rfl (Wd := 0) (by show 2 * 0 + _ ≤ _; exact Nat.le_of_eq rfl) (hb hby d9_29) (by decide) (by decide) [] (fun _ _ _ q => q.2) all0 (fun vm0 hZ => payN (ct_valueof H (p0 &&& (255 : Int32)) A50.old (c8r _)) (tw68 H.1) (tw12 H.1) (by decide) (by decide) hZ)
      obtain ⟨Q51, N51, -⟩ := Q51
      obtain ⟨a51, rfl, X51, S51⟩ := Q51
      have A51 := AA51 [] all0
      refine Run.st (T51.setTop (mkF m 32 #[.val (.int p0), .val (.int (lenI p0)), .unset] [(.ref a51)])) st51 ?_
      exact A51.leaveW hlk hh0 (some (.ref a51)) (fun q => by rw [hrt] at q; cases q) (by decide) (by decide) ⟨_, rfl, keepE A51.keep, by rw [mkL1 c39 c49]; exact S51⟩ (fun X hr => retOut X hx (w := (.ref a51)) (t := (.object "java/lang/String")) hrt rfl (Or.inr (Or.inr (Or.inr (Or.inr ⟨rfl, rfl, rfl⟩)))) (hb hby d9_32) hr)
    · refine Run.st (T38.setTop (mkF m 34 #[.val (.int p0), .val (.int (lenI p0)), .unset] [(.int (2 : Int32))])) (fun _ k => XS.icmpYes A38.here hx rfl (pc0 := 22) (pc' := 33) rfl (hb hby d9_22) rfl (feq c49).2 (by decide) (by decide) (XS.iconst A38.here hx rfl (hb hby d9_33) k)) ?_
      obtain ⟨a52, T52, h52, kA52, A52, E52, g52, V52, st52⟩ := A38.newP hx (aty := .char) (N := (2 : Int32)) (tw13 H.1) (g := (mkF m 34 #[.val (.int p0), .val (.int (lenI p0)), .unset] [(.int (2 : Int32))])) rfl (hb hby d9_34) rfl (by decide) (cap := 2) (by decide) (by decide) (by decide) (by decide)
      refine Run.st (T52.setTop (mkF m 36 #[.val (.int p0), .val (.int (lenI p0)), .unset] [(.ref a52)])) st52 ?_
      refine Run.st (T52.setTop (mkF m 40 #[.val (.int p0), .val (.int (lenI p0)), .val (.ref a52)] [(.int p0), (.int (0 : Int32)), (.ref a52)])) (fun _ k => XS.astoreN A52.here hx rfl (hb hby d9_36) rfl rfl (l' := #[.val (.int p0), .val (.int (lenI p0)), .val (.ref a52)]) rfl (XS.aloadN A52.here hx rfl (hb hby d9_37) rfl rfl (XS.iconst A52.here hx rfl (hb hby d9_38) (XS.iloadN A52.here hx rfl (hb hby d9_39) rfl k)))) ?_
      obtain ⟨v53, T53, h53, AA53, K53, ⟨L53, Q53⟩, st53⟩ := A52.callS hx (tw63 H.1) (tw64 H.1) (tw5 H.1) (tw65 H.1) (by decide) (g := (mkF m 40 #[.val (.int p0), .val (.int (lenI p0)), .val (.ref a52)] [(.int p0), (.int (0 : Int32)), (.ref a52)])) rfl (by rw [hml]; rfl) [(.int p0)] [(.int (0 : Int32)), (.ref a52)] (lenOf pd_6 rfl) rfl (Wd := 2) (by show 2 * 0 + _ ≤ _; exact Nat.le_of_eq rfl) (hb hby d9_40) (by decide) (by decide) [] (fun _ _ _ q => q.2) all0 (fun vm0 hZ => payN (ct_ch0 H p0 A52.old) (tw65 H.1) (tw5 H.1) (by decide) (by decide) hZ)
      obtain ⟨Q53, N53, -⟩ := Q53
      obtain ⟨rfl, q53⟩ := Q53
      have q53 := q53.symm
      subst q53
      have A53 := AA53 [] all0
      refine Run.st (T53.setTop (mkF m 43 #[.val (.int p0), .val (.int (lenI p0)), .val (.ref a52)] [(.int (p0 &&& (255 : Int32))), (.int (0 : Int32)), (.ref a52)])) st53 ?_
      obtain ⟨T54, h54, A54, K54, V54, st54⟩ := A53.stC hx V52 (List.mem_of_getElem? (i := 0) rfl) (j := (0 : Int32)) 0 rfl ⟨by decide, by decide⟩ (Nat.le_of_ble_eq_true rfl) (g := (mkF m 43 #[.val (.int p0), .val (.int (lenI p0)), .val (.ref a52)] [(.int (p0 &&& (255 : Int32))), (.int (0 : Int32)), (.ref a52)])) rfl rfl (hb hby d9_43)
      refine Run.st (T54.setTop (mkF m 44 #[.val (.int p0), .val (.int (lenI p0)), .val (.ref a52)] [])) st54 ?_
      refine Run.st (T54.setTop (mkF m 47 #[.val (.int p0), .val (.int (lenI p0)), .val (.ref a52)] [(.int p0), (.int (1 : Int32)), (.ref a52)])) (fun _ k => XS.aloadN A54.here hx rfl (hb hby d9_44) rfl rfl (XS.iconst A54.here hx rfl (hb hby d9_45) (XS.iloadN A54.here hx rfl (hb hby d9_46) rfl k))) ?_
      obtain ⟨v55, T55, h55, AA55, K55, ⟨L55, Q55⟩, st55⟩ := A54.callS hx (tw78 H.1) (tw79 H.1) (tw5 H.1) (tw80 H.1) (by decide) (g := (mkF m 47 #[.val (.int p0), .val (.int (lenI p0)), .val (.ref a52)] [(.int p0), (.int (1 : Int32)), (.ref a52)])) rfl (by rw [hml]; rfl) [(.int p0)] [(.int (1 : Int32)), (.ref a52)] (lenOf pd_6 rfl) rfl (Wd := 2) (by show 2 * 0 + _ ≤ _; exact Nat.le_of_eq rfl) (hb hby d9_47) (by decide) (by decide) [] (fun _ _ _ q => q.2) all0 (fun vm0 hZ => payN (ct_ch1 H p0 A54.old) (tw80 H.1) (tw5 H.1) (by decide) (by decide) hZ)
      obtain ⟨Q55, N55, -⟩ := Q55
      obtain ⟨rfl, q55⟩ := Q55
      have q55 := q55.symm
      subst q55
      have A55 := AA55 [] all0
      refine Run.st (T55.setTop (mkF m 50 #[.val (.int p0), .val (.int (lenI p0)), .val (.ref a52)] [(.int ((XT.ushr p0 (8 : Int32)) &&& (255 : Int32))), (.int (1 : Int32)), (.ref a52)])) st55 ?_
      obtain ⟨T56, h56, A56, K56, V56, st56⟩ := A55.stC hx V54 (List.mem_of_getElem? (i := 0) rfl) (j := (1 : Int32)) 1 rfl ⟨by decide, by decide⟩ (Nat.le_of_ble_eq_true rfl) (g := (mkF m 50 #[.val (.int p0), .val (.int (lenI p0)), .val (.ref a52)] [(.int ((XT.ushr p0 (8 : Int32)) &&& (255 : Int32))), (.int (1 : Int32)), (.ref a52)])) rfl rfl (hb hby d9_50)
      refine Run.st (T56.setTop (mkF m 51 #[.val (.int p0), .val (.int (lenI p0)), .val (.ref a52)] [])) st56 ?_
      obtain ⟨a57, T57, h57, A57, E57, g57, Ex57, D57, st57⟩ := A56.newO hx (tw10 H.1) (tw11 H.1) (tw12 H.1) (g := (mkF m 51 #[.val (.int p0), .val (.int (lenI p0)), .val (.ref a52)] [])) rfl (hb hby d9_51) (by decide) (by decide)
      refine Run.st (T57.setTop (mkF m 54 #[.val (.int p0), .val (.int (lenI p0)), .val (.ref a52)] [(.ref a57)])) st57 ?_
      refine Run.st (T57.setTop (mkF m 56 #[.val (.int p0), .val (.int (lenI p0)), .val (.ref a52)] [(.ref a52), (.ref a57), (.ref a57)])) (fun _ k => XS.dup A57.here hx rfl (hb hby d9_54) rfl rfl (XS.aloadN A57.here hx rfl (hb hby d9_55) rfl rfl k)) ?_
      have X59 : Ext h56 h57 := E57
      have f60 := V56.ext X59
      have V61 : Arv Z h57 a52 kA52 .char (2 : Int32) [(.int (nar .char (p0 &&& (255 : Int32)))), (.int (nar .char ((XT.ushr p0 (8 : Int32)) &&& (255 : Int32))))] (.int (0 : Int32)) := f60
      rw [narC (c8r p0), narC (c8r (XT.ushr p0 (8 : Int32)))] at V61
      have F62 : Fld Z h57 a57 "java/lang/String" "value" "[B" .null := D57 (Or.inr (tw26 H.1)) (ty := (.array .byte)) (by decide)
      have F63 : Fld Z h57 a57 "java/lang/String" "coder" "B" (.int 0) := D57 (Or.inr (tw27 H.1)) (ty := .byte) (by decide)
      obtain ⟨v58, T58, h58, AA58, K58, ⟨L58, Q58⟩, st58⟩ := A57.callI hx (y := (⟨"java/lang/String", "<init>", "([C)V"⟩ : MethodName)) rfl (tw14 H.1) (tw15 H.1) (tw16 H.1) (by decide) (g := (mkF m 56 #[.val (.int p0), .val (.int (lenI p0)), .val (.ref a52)] [(.ref a52), (.ref a57), (.ref a57)])) rfl (by rw [hml]; rfl) a57 [(.ref a52)] [(.ref a57)] (lenOf pd_5 rfl) rfl (Wd := 1) (by show 2 * 0 + _ ≤ _; exact Nat.le_of_eq rfl) (hb hby d9_56) (by decide) (by decide) [a57] (fun _ _ _ q => q.2.1) (allS (List.mem_of_getElem? (i := 0) rfl) all0) (fun vm0 hZ => payStr (nn := 2) H A57.old (A57.nle (List.mem_of_getElem? (i := 0) rfl)) Ex57 F62 F63 (cs := [(p0 &&& (255 : Int32)), ((XT.ushr p0 (8 : Int32)) &&& (255 : Int32))]) V61 rfl rfl (by decide) (by decide) (chsS (c8r p0) (chsS (c8r (XT.ushr p0 (8 : Int32))) chs0)) (by decide) (by decide) hZ)
      obtain ⟨rfl, -, S58⟩ := Q58
      have A58 := AA58 [] all0
      refine Run.st (T58.setTop (mkF m 59 #[.val (.int p0), .val (.int (lenI p0)), .val (.ref a52)] [(.ref a57)])) st58 ?_
      exact A58.leaveW hlk hh0 (some (.ref a57)) (fun q => by rw [hrt] at q; cases q) (by decide) (by decide) ⟨_, rfl, keepE A58.keep, by rw [mkL2 c39 c49]; exact S58⟩ (fun X hr => retOut X hx (w := (.ref a57)) (t := (.object "java/lang/String")) hrt rfl (Or.inr (Or.inr (Or.inr (Or.inr ⟨rfl, rfl, rfl⟩)))) (hb hby d9_59) hr)
theorem ef_same (m : MethodId) (y0 : Int32) (y1 : Int32) : entryFrame m #[(.int y0), (.int y1)] 3 = mkF m 0 #[.val (.int y0), .val (.int y1), .unset] [] := by first | (simp [entryFrame, mkF, argsToLocals, Value.category, maxLocals]; done) | rfl
def Q_same (Z : State) (p0 : Int32) (p1 : Int32) (h0 : Heap) (v : Option Value) (h : Heap) : Prop := v = some (.int (bI (mkL p0 = mkL p1))) ∧ h = h0
def rm_same : Room := { frames := 1, cells := 0, slots := 0, locals := 13 }
set_option maxRecDepth 65536 in
set_option maxHeartbeats 40000000 in
theorem ct_same {l : Launch} {Z : State} {a0 : Array Value} (H : Ev Z a0) (p0 : Int32) (p1 : Int32) {h0 : Heap} {n0 : Nat} (O0 : Old Z n0 h0) : CtrN l Z (⟨"com/example/hecate/hecate/HolderEqualsPinLaw", "same", "(II)Z"⟩ : MethodName) method_6_code 3 (some .boolean) [] rm_same #[(.int p0), (.int p1)] h0 [] n0 (Q_same Z p0 p1 h0) := by
  refine enterN (a0 := a0) (plainFor_of_name pn_1) O0 all0 ?_
  intro p e s m below meth c T0 hx hby hml hrt hnm hlk A0
  replace A0 : Wk false Z a0 [] n0 h0 [] "com/example/hecate/hecate/HolderEqualsPinLaw" p l e rm_same s m #[(.int p0), (.int p1)] below meth c [] T0 h0 0 0 := A0
  refine Run.st (T0.setTop (mkF m 0 #[.val (.int p0), .val (.int p1), .unset] [])) (fun _ k => castTop (ef_same m p0 p1) k) ?_
  refine Run.st (T0.setTop (mkF m 1 #[.val (.int p0), .val (.int p1), .unset] [(.int p0)])) (fun _ k => XS.iloadN A0.here hx rfl (hb hby d10_0) rfl k) ?_
  obtain ⟨v64, T64, h64, AA64, K64, ⟨L64, Q64⟩, st64⟩ := A0.callS hx (tw7 H.1) (tw8 H.1) (tw5 H.1) (tw9 H.1) (by decide) (g := (mkF m 1 #[.val (.int p0), .val (.int p1), .unset] [(.int p0)])) rfl (by rw [hml]; rfl) [(.int p0)] [] (lenOf pd_4 rfl) rfl (Wd := 0) (by show 2 * 0 + _ ≤ _; exact Nat.le_of_eq rfl) (hb hby d10_1) (by decide) (by decide) [] (fun _ _ _ q => q.2) all0 (fun vm0 hZ => payN (ct_len H p0 A0.old) (tw9 H.1) (tw5 H.1) (by decide) (by decide) hZ)
  obtain ⟨Q64, N64, -⟩ := Q64
  obtain ⟨rfl, q64⟩ := Q64
  have q64 := q64.symm
  subst q64
  have A64 := AA64 [] all0
  refine Run.st (T64.setTop (mkF m 4 #[.val (.int p0), .val (.int p1), .unset] [(.int (lenI p0))])) st64 ?_
  refine Run.st (T64.setTop (mkF m 7 #[.val (.int p0), .val (.int p1), .val (.int (lenI p0))] [(.int p1), (.int (lenI p0))])) (fun _ k => XS.istoreN A64.here hx rfl (hb hby d10_4) rfl (l' := #[.val (.int p0), .val (.int p1), .val (.int (lenI p0))]) rfl (XS.iloadN A64.here hx rfl (hb hby d10_5) rfl (XS.iloadN A64.here hx rfl (hb hby d10_6) rfl k))) ?_
  obtain ⟨v65, T65, h65, AA65, K65, ⟨L65, Q65⟩, st65⟩ := A64.callS hx (tw7 H.1) (tw8 H.1) (tw5 H.1) (tw9 H.1) (by decide) (g := (mkF m 7 #[.val (.int p0), .val (.int p1), .val (.int (lenI p0))] [(.int p1), (.int (lenI p0))])) rfl (by rw [hml]; rfl) [(.int p1)] [(.int (lenI p0))] (lenOf pd_4 rfl) rfl (Wd := 1) (by show 2 * 0 + _ ≤ _; exact Nat.le_of_eq rfl) (hb hby d10_7) (by decide) (by decide) [] (fun _ _ _ q => q.2) all0 (fun vm0 hZ => payN (ct_len H p1 A64.old) (tw9 H.1) (tw5 H.1) (by decide) (by decide) hZ)
  obtain ⟨Q65, N65, -⟩ := Q65
  obtain ⟨rfl, q65⟩ := Q65
  have q65 := q65.symm
  subst q65
  have A65 := AA65 [] all0
  refine Run.st (T65.setTop (mkF m 10 #[.val (.int p0), .val (.int p1), .val (.int (lenI p0))] [(.int (lenI p1)), (.int (lenI p0))])) st65 ?_
  by_cases c66 : (lenI p0) = (lenI p1)
  · refine Run.st (T65.setTop (mkF m 17 #[.val (.int p0), .val (.int p1), .val (.int (lenI p0))] [(.int (1 : Int32)), (.int (lenI p0))])) (fun _ k => XS.icmpYes A65.here hx rfl (pc0 := 10) (pc' := 15) rfl (hb hby d10_10) rfl (teq c66).1 (by decide) (by decide) (XS.iloadN A65.here hx rfl (hb hby d10_15) rfl (XS.iconst A65.here hx rfl (hb hby d10_16) k))) ?_
    by_cases c67 : (lenI p0) < (1 : Int32)
    · refine Run.st (T65.setTop (mkF m 35 #[.val (.int p0), .val (.int p1), .val (.int (lenI p0))] [(.int (2 : Int32)), (.int (lenI p0))])) (fun _ k => XS.icmpYes A65.here hx rfl (pc0 := 17) (pc' := 33) rfl (hb hby d10_17) rfl (tlt c67).1 (by decide) (by decide) (XS.iloadN A65.here hx rfl (hb hby d10_33) rfl (XS.iconst A65.here hx rfl (hb hby d10_34) k))) ?_
      by_cases c68 : (lenI p0) < (2 : Int32)
      · refine Run.st (T65.setTop (mkF m 52 #[.val (.int p0), .val (.int p1), .val (.int (lenI p0))] [(.int (1 : Int32))])) (fun _ k => XS.icmpYes A65.here hx rfl (pc0 := 35) (pc' := 51) rfl (hb hby d10_35) rfl (tlt c68).1 (by decide) (by decide) (XS.iconst A65.here hx rfl (hb hby d10_51) k)) ?_
        exact A65.leaveN hlk (some (.int (1 : Int32))) (fun q => by rw [hrt] at q; cases q) (by decide) (by decide) ⟨by rw [bIt (mkL_e0 c66 c67)], rfl⟩ (fun X hr => retN X hx (t := .boolean) hrt (by simp) (hb hby d10_52) hr)
      · refine Run.st (T65.setTop (mkF m 39 #[.val (.int p0), .val (.int p1), .val (.int (lenI p0))] [(.int p0)])) (fun _ k => XS.icmpNo A65.here hx rfl (hb hby d10_35) rfl (flt c68).1 (XS.iloadN A65.here hx rfl (hb hby d10_38) rfl k)) ?_
        obtain ⟨v69, T69, h69, AA69, K69, ⟨L69, Q69⟩, st69⟩ := A65.callS hx (tw78 H.1) (tw79 H.1) (tw5 H.1) (tw80 H.1) (by decide) (g := (mkF m 39 #[.val (.int p0), .val (.int p1), .val (.int (lenI p0))] [(.int p0)])) rfl (by rw [hml]; rfl) [(.int p0)] [] (lenOf pd_6 rfl) rfl (Wd := 0) (by show 2 * 0 + _ ≤ _; exact Nat.le_of_eq rfl) (hb hby d10_39) (by decide) (by decide) [] (fun _ _ _ q => q.2) all0 (fun vm0 hZ => payN (ct_ch1 H p0 A65.old) (tw80 H.1) (tw5 H.1) (by decide) (by decide) hZ)
        obtain ⟨Q69, N69, -⟩ := Q69
        obtain ⟨rfl, q69⟩ := Q69
        have q69 := q69.symm
        subst q69
        have A69 := AA69 [] all0
        refine Run.st (T69.setTop (mkF m 42 #[.val (.int p0), .val (.int p1), .val (.int (lenI p0))] [(.int ((XT.ushr p0 (8 : Int32)) &&& (255 : Int32)))])) st69 ?_
        refine Run.st (T69.setTop (mkF m 43 #[.val (.int p0), .val (.int p1), .val (.int (lenI p0))] [(.int p1), (.int ((XT.ushr p0 (8 : Int32)) &&& (255 : Int32)))])) (fun _ k => XS.iloadN A69.here hx rfl (hb hby d10_42) rfl k) ?_
        obtain ⟨v70, T70, h70, AA70, K70, ⟨L70, Q70⟩, st70⟩ := A69.callS hx (tw78 H.1) (tw79 H.1) (tw5 H.1) (tw80 H.1) (by decide) (g := (mkF m 43 #[.val (.int p0), .val (.int p1), .val (.int (lenI p0))] [(.int p1), (.int ((XT.ushr p0 (8 : Int32)) &&& (255 : Int32)))])) rfl (by rw [hml]; rfl) [(.int p1)] [(.int ((XT.ushr p0 (8 : Int32)) &&& (255 : Int32)))] (lenOf pd_6 rfl) rfl (Wd := 1) (by show 2 * 0 + _ ≤ _; exact Nat.le_of_eq rfl) (hb hby d10_43) (by decide) (by decide) [] (fun _ _ _ q => q.2) all0 (fun vm0 hZ => payN (ct_ch1 H p1 A69.old) (tw80 H.1) (tw5 H.1) (by decide) (by decide) hZ)
        obtain ⟨Q70, N70, -⟩ := Q70
        obtain ⟨rfl, q70⟩ := Q70
        have q70 := q70.symm
        subst q70
        have A70 := AA70 [] all0
        refine Run.st (T70.setTop (mkF m 46 #[.val (.int p0), .val (.int p1), .val (.int (lenI p0))] [(.int ((XT.ushr p1 (8 : Int32)) &&& (255 : Int32))), (.int ((XT.ushr p0 (8 : Int32)) &&& (255 : Int32)))])) st70 ?_
        exact absurd (lt_trans1 c67) c68
    · refine Run.st (T65.setTop (mkF m 21 #[.val (.int p0), .val (.int p1), .val (.int (lenI p0))] [(.int p0)])) (fun _ k => XS.icmpNo A65.here hx rfl (hb hby d10_17) rfl (flt c67).1 (XS.iloadN A65.here hx rfl (hb hby d10_20) rfl k)) ?_
      obtain ⟨v71, T71, h71, AA71, K71, ⟨L71, Q71⟩, st71⟩ := A65.callS hx (tw63 H.1) (tw64 H.1) (tw5 H.1) (tw65 H.1) (by decide) (g := (mkF m 21 #[.val (.int p0), .val (.int p1), .val (.int (lenI p0))] [(.int p0)])) rfl (by rw [hml]; rfl) [(.int p0)] [] (lenOf pd_6 rfl) rfl (Wd := 0) (by show 2 * 0 + _ ≤ _; exact Nat.le_of_eq rfl) (hb hby d10_21) (by decide) (by decide) [] (fun _ _ _ q => q.2) all0 (fun vm0 hZ => payN (ct_ch0 H p0 A65.old) (tw65 H.1) (tw5 H.1) (by decide) (by decide) hZ)
      obtain ⟨Q71, N71, -⟩ := Q71
      obtain ⟨rfl, q71⟩ := Q71
      have q71 := q71.symm
      subst q71
      have A71 := AA71 [] all0
      refine Run.st (T71.setTop (mkF m 24 #[.val (.int p0), .val (.int p1), .val (.int (lenI p0))] [(.int (p0 &&& (255 : Int32)))])) st71 ?_
      refine Run.st (T71.setTop (mkF m 25 #[.val (.int p0), .val (.int p1), .val (.int (lenI p0))] [(.int p1), (.int (p0 &&& (255 : Int32)))])) (fun _ k => XS.iloadN A71.here hx rfl (hb hby d10_24) rfl k) ?_
      obtain ⟨v72, T72, h72, AA72, K72, ⟨L72, Q72⟩, st72⟩ := A71.callS hx (tw63 H.1) (tw64 H.1) (tw5 H.1) (tw65 H.1) (by decide) (g := (mkF m 25 #[.val (.int p0), .val (.int p1), .val (.int (lenI p0))] [(.int p1), (.int (p0 &&& (255 : Int32)))])) rfl (by rw [hml]; rfl) [(.int p1)] [(.int (p0 &&& (255 : Int32)))] (lenOf pd_6 rfl) rfl (Wd := 1) (by show 2 * 0 + _ ≤ _; exact Nat.le_of_eq rfl) (hb hby d10_25) (by decide) (by decide) [] (fun _ _ _ q => q.2) all0 (fun vm0 hZ => payN (ct_ch0 H p1 A71.old) (tw65 H.1) (tw5 H.1) (by decide) (by decide) hZ)
      obtain ⟨Q72, N72, -⟩ := Q72
      obtain ⟨rfl, q72⟩ := Q72
      have q72 := q72.symm
      subst q72
      have A72 := AA72 [] all0
      refine Run.st (T72.setTop (mkF m 28 #[.val (.int p0), .val (.int p1), .val (.int (lenI p0))] [(.int (p1 &&& (255 : Int32))), (.int (p0 &&& (255 : Int32)))])) st72 ?_
      by_cases c73 : (p0 &&& (255 : Int32)) = (p1 &&& (255 : Int32))
      · refine Run.st (T72.setTop (mkF m 35 #[.val (.int p0), .val (.int p1), .val (.int (lenI p0))] [(.int (2 : Int32)), (.int (lenI p0))])) (fun _ k => XS.icmpYes A72.here hx rfl (pc0 := 28) (pc' := 33) rfl (hb hby d10_28) rfl (teq c73).1 (by decide) (by decide) (XS.iloadN A72.here hx rfl (hb hby d10_33) rfl (XS.iconst A72.here hx rfl (hb hby d10_34) k))) ?_
        by_cases c74 : (lenI p0) < (2 : Int32)
        · refine Run.st (T72.setTop (mkF m 52 #[.val (.int p0), .val (.int p1), .val (.int (lenI p0))] [(.int (1 : Int32))])) (fun _ k => XS.icmpYes A72.here hx rfl (pc0 := 35) (pc' := 51) rfl (hb hby d10_35) rfl (tlt c74).1 (by decide) (by decide) (XS.iconst A72.here hx rfl (hb hby d10_51) k)) ?_
          exact A72.leaveN hlk (some (.int (1 : Int32))) (fun q => by rw [hrt] at q; cases q) (by decide) (by decide) ⟨by rw [bIt (mkL_e1 c66 c74 c73)], rfl⟩ (fun X hr => retN X hx (t := .boolean) hrt (by simp) (hb hby d10_52) hr)
        · refine Run.st (T72.setTop (mkF m 39 #[.val (.int p0), .val (.int p1), .val (.int (lenI p0))] [(.int p0)])) (fun _ k => XS.icmpNo A72.here hx rfl (hb hby d10_35) rfl (flt c74).1 (XS.iloadN A72.here hx rfl (hb hby d10_38) rfl k)) ?_
          obtain ⟨v75, T75, h75, AA75, K75, ⟨L75, Q75⟩, st75⟩ := A72.callS hx (tw78 H.1) (tw79 H.1) (tw5 H.1) (tw80 H.1) (by decide) (g := (mkF m 39 #[.val (.int p0), .val (.int p1), .val (.int (lenI p0))] [(.int p0)])) rfl (by rw [hml]; rfl) [(.int p0)] [] (lenOf pd_6 rfl) rfl (Wd := 0) (by show 2 * 0 + _ ≤ _; exact Nat.le_of_eq rfl) (hb hby d10_39) (by decide) (by decide) [] (fun _ _ _ q => q.2) all0 (fun vm0 hZ => payN (ct_ch1 H p0 A72.old) (tw80 H.1) (tw5 H.1) (by decide) (by decide) hZ)
          obtain ⟨Q75, N75, -⟩ := Q75
          obtain ⟨rfl, q75⟩ := Q75
          have q75 := q75.symm
          subst q75
          have A75 := AA75 [] all0
          refine Run.st (T75.setTop (mkF m 42 #[.val (.int p0), .val (.int p1), .val (.int (lenI p0))] [(.int ((XT.ushr p0 (8 : Int32)) &&& (255 : Int32)))])) st75 ?_
          refine Run.st (T75.setTop (mkF m 43 #[.val (.int p0), .val (.int p1), .val (.int (lenI p0))] [(.int p1), (.int ((XT.ushr p0 (8 : Int32)) &&& (255 : Int32)))])) (fun _ k => XS.iloadN A75.here hx rfl (hb hby d10_42) rfl k) ?_
          obtain ⟨v76, T76, h76, AA76, K76, ⟨L76, Q76⟩, st76⟩ := A75.callS hx (tw78 H.1) (tw79 H.1) (tw5 H.1) (tw80 H.1) (by decide) (g := (mkF m 43 #[.val (.int p0), .val (.int p1), .val (.int (lenI p0))] [(.int p1), (.int ((XT.ushr p0 (8 : Int32)) &&& (255 : Int32)))])) rfl (by rw [hml]; rfl) [(.int p1)] [(.int ((XT.ushr p0 (8 : Int32)) &&& (255 : Int32)))] (lenOf pd_6 rfl) rfl (Wd := 1) (by show 2 * 0 + _ ≤ _; exact Nat.le_of_eq rfl) (hb hby d10_43) (by decide) (by decide) [] (fun _ _ _ q => q.2) all0 (fun vm0 hZ => payN (ct_ch1 H p1 A75.old) (tw80 H.1) (tw5 H.1) (by decide) (by decide) hZ)
          obtain ⟨Q76, N76, -⟩ := Q76
          obtain ⟨rfl, q76⟩ := Q76
          have q76 := q76.symm
          subst q76
          have A76 := AA76 [] all0
          refine Run.st (T76.setTop (mkF m 46 #[.val (.int p0), .val (.int p1), .val (.int (lenI p0))] [(.int ((XT.ushr p1 (8 : Int32)) &&& (255 : Int32))), (.int ((XT.ushr p0 (8 : Int32)) &&& (255 : Int32)))])) st76 ?_
          by_cases c77 : ((XT.ushr p0 (8 : Int32)) &&& (255 : Int32)) = ((XT.ushr p1 (8 : Int32)) &&& (255 : Int32))
          · refine Run.st (T76.setTop (mkF m 52 #[.val (.int p0), .val (.int p1), .val (.int (lenI p0))] [(.int (1 : Int32))])) (fun _ k => XS.icmpYes A76.here hx rfl (pc0 := 46) (pc' := 51) rfl (hb hby d10_46) rfl (teq c77).1 (by decide) (by decide) (XS.iconst A76.here hx rfl (hb hby d10_51) k)) ?_
            exact A76.leaveN hlk (some (.int (1 : Int32))) (fun q => by rw [hrt] at q; cases q) (by decide) (by decide) ⟨by rw [bIt (mkL_e2 c66 c73 c77)], rfl⟩ (fun X hr => retN X hx (t := .boolean) hrt (by simp) (hb hby d10_52) hr)
          · refine Run.st (T76.setTop (mkF m 50 #[.val (.int p0), .val (.int p1), .val (.int (lenI p0))] [(.int (0 : Int32))])) (fun _ k => XS.icmpNo A76.here hx rfl (hb hby d10_46) rfl (feq c77).1 (XS.iconst A76.here hx rfl (hb hby d10_49) k)) ?_
            exact A76.leaveN hlk (some (.int (0 : Int32))) (fun q => by rw [hrt] at q; cases q) (by decide) (by decide) ⟨by rw [bI0 (mkL_c1 c66 c74 c77)], rfl⟩ (fun X hr => retN X hx (t := .boolean) hrt (by simp) (hb hby d10_50) hr)
      · refine Run.st (T72.setTop (mkF m 32 #[.val (.int p0), .val (.int p1), .val (.int (lenI p0))] [(.int (0 : Int32))])) (fun _ k => XS.icmpNo A72.here hx rfl (hb hby d10_28) rfl (feq c73).1 (XS.iconst A72.here hx rfl (hb hby d10_31) k)) ?_
        exact A72.leaveN hlk (some (.int (0 : Int32))) (fun q => by rw [hrt] at q; cases q) (by decide) (by decide) ⟨by rw [bI0 (mkL_c0 c66 c67 c73)], rfl⟩ (fun X hr => retN X hx (t := .boolean) hrt (by simp) (hb hby d10_32) hr)
  · refine Run.st (T65.setTop (mkF m 14 #[.val (.int p0), .val (.int p1), .val (.int (lenI p0))] [(.int (0 : Int32))])) (fun _ k => XS.icmpNo A65.here hx rfl (hb hby d10_10) rfl (feq c66).1 (XS.iconst A65.here hx rfl (hb hby d10_13) k)) ?_
    exact A65.leaveN hlk (some (.int (0 : Int32))) (fun q => by rw [hrt] at q; cases q) (by decide) (by decide) ⟨by rw [bI0 (mkL_len c66)], rfl⟩ (fun X hr => retN X hx (t := .boolean) hrt (by simp) (hb hby d10_14) hr)
theorem ef_holder (m : MethodId) (y0 : Addr) (y1 : Addr) (y2 : Addr) : entryFrame m #[(.ref y0), (.ref y1), (.ref y2)] 3 = mkF m 0 #[.val (.ref y0), .val (.ref y1), .val (.ref y2)] [] := by first | (simp [entryFrame, mkF, argsToLocals, Value.category, maxLocals]; done) | rfl
def Q_holder (Z : State) (a1 : Addr) (b1 : Addr) (b2 : Addr) (u_owner : Value) (u_instanceId : Value) (h0 : Heap) (v : Option Value) (h : Heap) : Prop := v = none ∧ Exa Z h a1 "com/example/hecate/hecate/Holder" ∧ Fld Z h a1 "com/example/hecate/hecate/Holder" "owner" "Ljava/lang/String;" (.ref b1) ∧ Fld Z h a1 "com/example/hecate/hecate/Holder" "instanceId" "Ljava/lang/String;" (.ref b2)
def rm_holder : Room := { frames := 1, cells := 0, slots := 0, locals := 12 }
set_option maxRecDepth 65536 in
set_option maxHeartbeats 40000000 in
theorem ct_holder {l : Launch} {Z : State} {a0 : Array Value} (H : Ev Z a0) (a1 : Addr) (b1 : Addr) (b2 : Addr) (u_owner : Value) (u_instanceId : Value) {h0 : Heap} {n0 : Nat} (O0 : Old Z n0 h0) (E1 : Exa Z h0 a1 "com/example/hecate/hecate/Holder") (g_a1 : n0 ≤ a1) (z_a1 : a1 < h0.size) (F_owner : Fld Z h0 a1 "com/example/hecate/hecate/Holder" "owner" "Ljava/lang/String;" u_owner) (F_instanceId : Fld Z h0 a1 "com/example/hecate/hecate/Holder" "instanceId" "Ljava/lang/String;" u_instanceId) : CtrN l Z (⟨"com/example/hecate/hecate/Holder", "<init>", "(Ljava/lang/String;Ljava/lang/String;)V"⟩ : MethodName) prog_2_method_1_code 3 none [] rm_holder #[(.ref a1), (.ref b1), (.ref b2)] h0 [a1] n0 (Q_holder Z a1 b1 b2 u_owner u_instanceId h0) := by
  refine enterN (a0 := a0) (plainFor_of_name pn_3) O0 (allS ⟨g_a1, z_a1⟩ all0) ?_
  intro p e s m below meth c T0 hx hby hml hrt hnm hlk A0
  replace A0 : Wk false Z a0 [] n0 h0 [a1] "com/example/hecate/hecate/Holder" p l e rm_holder s m #[(.ref a1), (.ref b1), (.ref b2)] below meth c [a1] T0 h0 0 0 := A0
  refine Run.st (T0.setTop (mkF m 0 #[.val (.ref a1), .val (.ref b1), .val (.ref b2)] [])) (fun _ k => castTop (ef_holder m a1 b1 b2) k) ?_
  refine Run.st (T0.setTop (mkF m 1 #[.val (.ref a1), .val (.ref b1), .val (.ref b2)] [(.ref a1)])) (fun _ k => XS.aloadN A0.here hx rfl (hb hby d11_0) rfl rfl k) ?_
  obtain ⟨T78, A78, st78⟩ := A0.initO hx (tw35 H.1) (tw22 H.1) (tw23 H.1) (g := (mkF m 1 #[.val (.ref a1), .val (.ref b1), .val (.ref b2)] [(.ref a1)])) rfl (by rw [hml]; rfl) rfl (hb hby d11_1) (by decide) (Wd := 0) (by show 2 * 0 + _ ≤ _; exact Nat.le_of_eq rfl) (by decide)
  refine Run.st (T78.setTop (mkF m 4 #[.val (.ref a1), .val (.ref b1), .val (.ref b2)] [])) st78 ?_
  refine Run.st (T78.setTop (mkF m 6 #[.val (.ref a1), .val (.ref b1), .val (.ref b2)] [(.ref b1), (.ref a1)])) (fun _ k => XS.aloadN A78.here hx rfl (hb hby d11_4) rfl rfl (XS.aloadN A78.here hx rfl (hb hby d11_5) rfl rfl k)) ?_
  obtain ⟨T79, h79, A79, K79, W79, st79⟩ := A78.putF hx (tw36 H.1) Via.refl (a := a1) (List.mem_of_getElem? (i := 0) rfl) (v' := (.ref b1)) F_owner E1 (Or.inr ⟨(tw37 H.1), rfl, hnm⟩) (tw1 H.1) (ty := (.object "java/lang/String")) (by decide) rfl rfl (g := (mkF m 6 #[.val (.ref a1), .val (.ref b1), .val (.ref b2)] [(.ref b1), (.ref a1)])) rfl rfl (hb hby d11_6)
  have F79 : Fld Z h79 a1 "com/example/hecate/hecate/Holder" "owner" "Ljava/lang/String;" (.ref b1) := F_owner.same W79
  refine Run.st (T79.setTop (mkF m 9 #[.val (.ref a1), .val (.ref b1), .val (.ref b2)] [])) st79 ?_
  refine Run.st (T79.setTop (mkF m 11 #[.val (.ref a1), .val (.ref b1), .val (.ref b2)] [(.ref b2), (.ref a1)])) (fun _ k => XS.aloadN A79.here hx rfl (hb hby d11_9) rfl rfl (XS.aloadN A79.here hx rfl (hb hby d11_10) rfl rfl k)) ?_
  have f81 := (F_instanceId.other W79 (Or.inr (slot_ne (Or.inr (tw39 H.1)) (Or.inr (tw37 H.1)) (by decide) (t := (.object "java/lang/String")) (t' := (.object "java/lang/String")) (by decide) (by decide))))
  have f82 := (E1.wr W79)
  obtain ⟨T80, h80, A80, K80, W80, st80⟩ := A79.putF hx (tw38 H.1) Via.refl (a := a1) (List.mem_of_getElem? (i := 0) rfl) (v' := (.ref b2)) f81 f82 (Or.inr ⟨(tw39 H.1), rfl, hnm⟩) (tw1 H.1) (ty := (.object "java/lang/String")) (by decide) rfl rfl (g := (mkF m 11 #[.val (.ref a1), .val (.ref b1), .val (.ref b2)] [(.ref b2), (.ref a1)])) rfl rfl (hb hby d11_11)
  have F80 : Fld Z h80 a1 "com/example/hecate/hecate/Holder" "instanceId" "Ljava/lang/String;" (.ref b2) := f81.same W80
  refine Run.st (T80.setTop (mkF m 14 #[.val (.ref a1), .val (.ref b1), .val (.ref b2)] [])) st80 ?_
  have f83 := ((E1.wr W79).wr W80)
  have f84 := (F79.other W80 (Or.inr (slot_ne (Or.inr (tw37 H.1)) (Or.inr (tw39 H.1)) (by decide) (t := (.object "java/lang/String")) (t' := (.object "java/lang/String")) (by decide) (by decide))))
  exact A80.leaveN hlk none (fun _ => rfl) (by decide) (by decide) ⟨rfl, f83, f84, F80⟩ (fun X hr => X.returnOut hx hrt (hb hby d11_14) hr)
theorem ef_eqn (m : MethodId) (y0 : Addr) : entryFrame m #[(.ref y0), .null] 3 = mkF m 0 #[.val (.ref y0), .val .null, .unset] [] := by first | (simp [entryFrame, mkF, argsToLocals, Value.category, maxLocals]; done) | rfl
def Q_eqn (Z : State) (a1 : Addr) (h0 : Heap) (v : Option Value) (h : Heap) : Prop := v = some (.int 0) ∧ h = h0
def rm_eqn : Room := { frames := 0, cells := 0, slots := 0, locals := 0 }
set_option maxRecDepth 65536 in
set_option maxHeartbeats 40000000 in
theorem ct_eqn {l : Launch} {Z : State} {a0 : Array Value} (H : Ev Z a0) (a1 : Addr) {h0 : Heap} {n0 : Nat} (O0 : Old Z n0 h0) : CtrN l Z (⟨"com/example/hecate/hecate/Holder", "equals", "(Ljava/lang/Object;)Z"⟩ : MethodName) prog_2_method_4_code 3 (some .boolean) [] rm_eqn #[(.ref a1), .null] h0 [] n0 (Q_eqn Z a1 h0) := by
  refine enterN (a0 := a0) (plainFor_of_name pn_3) O0 all0 ?_
  intro p e s m below meth c T0 hx hby hml hrt hnm hlk A0
  replace A0 : Wk false Z a0 [] n0 h0 [] "com/example/hecate/hecate/Holder" p l e rm_eqn s m #[(.ref a1), .null] below meth c [] T0 h0 0 0 := A0
  refine Run.st (T0.setTop (mkF m 0 #[.val (.ref a1), .val .null, .unset] [])) (fun _ k => castTop (ef_eqn m a1) k) ?_
  refine Run.st (T0.setTop (mkF m 1 #[.val (.ref a1), .val .null, .unset] [.null])) (fun _ k => XS.aloadN A0.here hx rfl (hb hby d12_0) rfl rfl k) ?_
  refine Run.st (T0.setTop (mkF m 4 #[.val (.ref a1), .val .null, .unset] [(.int (0 : Int32))])) (A0.instNull hx (g := (mkF m 1 #[.val (.ref a1), .val .null, .unset] [.null])) rfl rfl (hb hby d12_1)) ?_
  refine Run.st (T0.setTop (mkF m 45 #[.val (.ref a1), .val .null, .unset] [(.int (0 : Int32))])) (fun _ k => XS.ifYes A0.here hx rfl (pc0 := 4) (pc' := 44) rfl (hb hby d12_4) rfl (by decide) (by decide) (by decide) (XS.iconst A0.here hx rfl (hb hby d12_44) k)) ?_
  exact A0.leaveN hlk (some (.int (0 : Int32))) (fun q => by rw [hrt] at q; cases q) (by decide) (by decide) ⟨rfl, rfl⟩ (fun X hr => retN X hx (t := .boolean) hrt (by simp) (hb hby d12_45) hr)
theorem ef_eqst (m : MethodId) (y0 : Addr) (y1 : Addr) : entryFrame m #[(.ref y0), (.ref y1)] 3 = mkF m 0 #[.val (.ref y0), .val (.ref y1), .unset] [] := by first | (simp [entryFrame, mkF, argsToLocals, Value.category, maxLocals]; done) | rfl
def Q_eqst (Z : State) (a1 : Addr) (b1 : Addr) (h0 : Heap) (v : Option Value) (h : Heap) : Prop := v = some (.int 0) ∧ h = h0
def rm_eqst : Room := { frames := 0, cells := 0, slots := 0, locals := 0 }
set_option maxRecDepth 65536 in
set_option maxHeartbeats 40000000 in
theorem ct_eqst {l : Launch} {Z : State} {a0 : Array Value} (H : Ev Z a0) (a1 : Addr) (b1 : Addr) {h0 : Heap} {n0 : Nat} (O0 : Old Z n0 h0) (E1 : Exa Z h0 b1 "java/lang/String") : CtrN l Z (⟨"com/example/hecate/hecate/Holder", "equals", "(Ljava/lang/Object;)Z"⟩ : MethodName) prog_2_method_4_code 3 (some .boolean) [] rm_eqst #[(.ref a1), (.ref b1)] h0 [] n0 (Q_eqst Z a1 b1 h0) := by
  refine enterN (a0 := a0) (plainFor_of_name pn_3) O0 all0 ?_
  intro p e s m below meth c T0 hx hby hml hrt hnm hlk A0
  replace A0 : Wk false Z a0 [] n0 h0 [] "com/example/hecate/hecate/Holder" p l e rm_eqst s m #[(.ref a1), (.ref b1)] below meth c [] T0 h0 0 0 := A0
  refine Run.st (T0.setTop (mkF m 0 #[.val (.ref a1), .val (.ref b1), .unset] [])) (fun _ k => castTop (ef_eqst m a1 b1) k) ?_
  refine Run.st (T0.setTop (mkF m 1 #[.val (.ref a1), .val (.ref b1), .unset] [(.ref b1)])) (fun _ k => XS.aloadN A0.here hx rfl (hb hby d12_0) rfl rfl k) ?_
  obtain ⟨T85, A85, st85⟩ := A0.instNo hx (tw48 H.1) E1 (nsI (tw61 H.1) (tw62 H.1) (tw1 H.1) (by decide) (by decide)) (g := (mkF m 1 #[.val (.ref a1), .val (.ref b1), .unset] [(.ref b1)])) rfl rfl (hb hby d12_1)
  refine Run.st (T85.setTop (mkF m 4 #[.val (.ref a1), .val (.ref b1), .unset] [(.int (0 : Int32))])) st85 ?_
  refine Run.st (T85.setTop (mkF m 45 #[.val (.ref a1), .val (.ref b1), .unset] [(.int (0 : Int32))])) (fun _ k => XS.ifYes A85.here hx rfl (pc0 := 4) (pc' := 44) rfl (hb hby d12_4) rfl (by decide) (by decide) (by decide) (XS.iconst A85.here hx rfl (hb hby d12_44) k)) ?_
  exact A85.leaveN hlk (some (.int (0 : Int32))) (fun q => by rw [hrt] at q; cases q) (by decide) (by decide) ⟨rfl, rfl⟩ (fun X hr => retN X hx (t := .boolean) hrt (by simp) (hb hby d12_45) hr)
theorem ef_eqh (m : MethodId) (y0 : Addr) (y1 : Addr) : entryFrame m #[(.ref y0), (.ref y1)] 3 = mkF m 0 #[.val (.ref y0), .val (.ref y1), .unset] [] := by first | (simp [entryFrame, mkF, argsToLocals, Value.category, maxLocals]; done) | rfl
def Q_eqh (Z : State) (a1 : Addr) (b1 : Addr) (o1 : Addr) (i1 : Addr) (o2 : Addr) (i2 : Addr) (c1 : List Int32) (d1 : List Int32) (c2 : List Int32) (d2 : List Int32) (h0 : Heap) (v : Option Value) (h : Heap) : Prop := v = some (.int (bI (c1 = c2 ∧ d1 = d2))) ∧ h = h0
def rm_eqh : Room := { frames := 2, cells := 0, slots := 0, locals := 28 }
set_option maxRecDepth 65536 in
set_option maxHeartbeats 40000000 in
theorem ct_eqh {l : Launch} {Z : State} {a0 : Array Value} (H : Ev Z a0) (a1 : Addr) (b1 : Addr) (o1 : Addr) (i1 : Addr) (o2 : Addr) (i2 : Addr) (c1 : List Int32) (d1 : List Int32) (c2 : List Int32) (d2 : List Int32) {h0 : Heap} {n0 : Nat} (O0 : Old Z n0 h0) (E1 : Exa Z h0 b1 "com/example/hecate/hecate/Holder") (Fo1 : Fld Z h0 a1 "com/example/hecate/hecate/Holder" "owner" "Ljava/lang/String;" (.ref o1)) (Fi1 : Fld Z h0 a1 "com/example/hecate/hecate/Holder" "instanceId" "Ljava/lang/String;" (.ref i1)) (Fo2 : Fld Z h0 b1 "com/example/hecate/hecate/Holder" "owner" "Ljava/lang/String;" (.ref o2)) (Fi2 : Fld Z h0 b1 "com/example/hecate/hecate/Holder" "instanceId" "Ljava/lang/String;" (.ref i2)) (So1 : StrA Z h0 o1 c1) (Si1 : StrA Z h0 i1 d1) (So2 : StrA Z h0 o2 c2) (Si2 : StrA Z h0 i2 d2) : CtrN l Z (⟨"com/example/hecate/hecate/Holder", "equals", "(Ljava/lang/Object;)Z"⟩ : MethodName) prog_2_method_4_code 3 (some .boolean) [] rm_eqh #[(.ref a1), (.ref b1)] h0 [] n0 (Q_eqh Z a1 b1 o1 i1 o2 i2 c1 d1 c2 d2 h0) := by
  refine enterN (a0 := a0) (plainFor_of_name pn_3) O0 all0 ?_
  intro p e s m below meth c T0 hx hby hml hrt hnm hlk A0
  replace A0 : Wk false Z a0 [] n0 h0 [] "com/example/hecate/hecate/Holder" p l e rm_eqh s m #[(.ref a1), (.ref b1)] below meth c [] T0 h0 0 0 := A0
  refine Run.st (T0.setTop (mkF m 0 #[.val (.ref a1), .val (.ref b1), .unset] [])) (fun _ k => castTop (ef_eqh m a1 b1) k) ?_
  refine Run.st (T0.setTop (mkF m 1 #[.val (.ref a1), .val (.ref b1), .unset] [(.ref b1)])) (fun _ k => XS.aloadN A0.here hx rfl (hb hby d12_0) rfl rfl k) ?_
  obtain ⟨T86, A86, st86⟩ := A0.instY hx (tw48 H.1) (Ins.self E1) (g := (mkF m 1 #[.val (.ref a1), .val (.ref b1), .unset] [(.ref b1)])) rfl rfl (hb hby d12_1)
  refine Run.st (T86.setTop (mkF m 4 #[.val (.ref a1), .val (.ref b1), .unset] [(.int (1 : Int32))])) st86 ?_
  refine Run.st (T86.setTop (mkF m 8 #[.val (.ref a1), .val (.ref b1), .unset] [(.ref b1)])) (fun _ k => XS.ifNo A86.here hx rfl (hb hby d12_4) rfl (by decide) (XS.aloadN A86.here hx rfl (hb hby d12_7) rfl rfl k)) ?_
  obtain ⟨T87, A87, st87⟩ := A86.castY hx (tw48 H.1) (Ins.self E1) (g := (mkF m 8 #[.val (.ref a1), .val (.ref b1), .unset] [(.ref b1)])) rfl rfl (hb hby d12_8)
  refine Run.st (T87.setTop (mkF m 11 #[.val (.ref a1), .val (.ref b1), .unset] [(.ref b1)])) st87 ?_
  refine Run.st (T87.setTop (mkF m 13 #[.val (.ref a1), .val (.ref b1), .val (.ref b1)] [(.ref a1)])) (fun _ k => XS.astoreN A87.here hx rfl (hb hby d12_11) rfl rfl (l' := #[.val (.ref a1), .val (.ref b1), .val (.ref b1)]) rfl (XS.aloadN A87.here hx rfl (hb hby d12_12) rfl rfl k)) ?_
  obtain ⟨T88, A88, st88⟩ := A87.getF hx (tw36 H.1) Via.refl Fo1 (g := (mkF m 13 #[.val (.ref a1), .val (.ref b1), .val (.ref b1)] [(.ref a1)])) rfl rfl (hb hby d12_13)
  refine Run.st (T88.setTop (mkF m 16 #[.val (.ref a1), .val (.ref b1), .val (.ref b1)] [(.ref o1)])) st88 ?_
  refine Run.st (T88.setTop (mkF m 17 #[.val (.ref a1), .val (.ref b1), .val (.ref b1)] [(.ref b1), (.ref o1)])) (fun _ k => XS.aloadN A88.here hx rfl (hb hby d12_16) rfl rfl k) ?_
  obtain ⟨T89, A89, st89⟩ := A88.getF hx (tw36 H.1) Via.refl Fo2 (g := (mkF m 17 #[.val (.ref a1), .val (.ref b1), .val (.ref b1)] [(.ref b1), (.ref o1)])) rfl rfl (hb hby d12_17)
  refine Run.st (T89.setTop (mkF m 20 #[.val (.ref a1), .val (.ref b1), .val (.ref b1)] [(.ref o2), (.ref o1)])) st89 ?_
  obtain ⟨v90, T90, h90, AA90, K90, ⟨L90, Q90⟩, st90⟩ := A89.callV hx (y := (⟨"java/lang/String", "equals", "(Ljava/lang/Object;)Z"⟩ : MethodName)) (z := (⟨"java/lang/String", "equals", "(Ljava/lang/Object;)Z"⟩ : MethodName)) (tw50 H.1) (tw51 H.1) (tw53 H.1) (tw52 H.1) (nfSel (tw53 H.1)) (by decide) So1.1 (g := (mkF m 20 #[.val (.ref a1), .val (.ref b1), .val (.ref b1)] [(.ref o2), (.ref o1)])) rfl (by rw [hml]; rfl) [(.ref o2)] [] (lenOf pd_8 rfl) rfl (Wd := 0) (by show 2 * 0 + _ ≤ _; exact Nat.le_of_eq rfl) (hb hby d12_20) (by decide) (by decide) [] (fun _ _ _ q => by obtain ⟨⟨-, rfl⟩, rfl⟩ := q; exact ⟨Fr.nil _, Keep.refl _ _⟩) all0 (fun vm0 hZ => payEq H A89.old So1 So2 (by decide) (by decide) hZ)
  obtain ⟨⟨rfl, q90⟩, -⟩ := Q90
  have q90 := q90.symm
  subst q90
  have A90 := AA90 [] all0
  refine Run.st (T90.setTop (mkF m 23 #[.val (.ref a1), .val (.ref b1), .val (.ref b1)] [(.int (bI (c1 = c2)))])) st90 ?_
  by_cases c91 : c1 = c2
  · refine Run.st (T90.setTop (mkF m 27 #[.val (.ref a1), .val (.ref b1), .val (.ref b1)] [(.ref a1)])) (fun _ k => XS.ifNo A90.here hx rfl (hb hby d12_23) rfl (by rw [if0]; exact (feq (bI1 c91)).1) (XS.aloadN A90.here hx rfl (hb hby d12_26) rfl rfl k)) ?_
    obtain ⟨T92, A92, st92⟩ := A90.getF hx (tw38 H.1) Via.refl Fi1 (g := (mkF m 27 #[.val (.ref a1), .val (.ref b1), .val (.ref b1)] [(.ref a1)])) rfl rfl (hb hby d12_27)
    refine Run.st (T92.setTop (mkF m 30 #[.val (.ref a1), .val (.ref b1), .val (.ref b1)] [(.ref i1)])) st92 ?_
    refine Run.st (T92.setTop (mkF m 31 #[.val (.ref a1), .val (.ref b1), .val (.ref b1)] [(.ref b1), (.ref i1)])) (fun _ k => XS.aloadN A92.here hx rfl (hb hby d12_30) rfl rfl k) ?_
    obtain ⟨T93, A93, st93⟩ := A92.getF hx (tw38 H.1) Via.refl Fi2 (g := (mkF m 31 #[.val (.ref a1), .val (.ref b1), .val (.ref b1)] [(.ref b1), (.ref i1)])) rfl rfl (hb hby d12_31)
    refine Run.st (T93.setTop (mkF m 34 #[.val (.ref a1), .val (.ref b1), .val (.ref b1)] [(.ref i2), (.ref i1)])) st93 ?_
    obtain ⟨v94, T94, h94, AA94, K94, ⟨L94, Q94⟩, st94⟩ := A93.callV hx (y := (⟨"java/lang/String", "equals", "(Ljava/lang/Object;)Z"⟩ : MethodName)) (z := (⟨"java/lang/String", "equals", "(Ljava/lang/Object;)Z"⟩ : MethodName)) (tw50 H.1) (tw51 H.1) (tw53 H.1) (tw52 H.1) (nfSel (tw53 H.1)) (by decide) Si1.1 (g := (mkF m 34 #[.val (.ref a1), .val (.ref b1), .val (.ref b1)] [(.ref i2), (.ref i1)])) rfl (by rw [hml]; rfl) [(.ref i2)] [] (lenOf pd_8 rfl) rfl (Wd := 0) (by show 2 * 0 + _ ≤ _; exact Nat.le_of_eq rfl) (hb hby d12_34) (by decide) (by decide) [] (fun _ _ _ q => by obtain ⟨⟨-, rfl⟩, rfl⟩ := q; exact ⟨Fr.nil _, Keep.refl _ _⟩) all0 (fun vm0 hZ => payEq H A93.old Si1 Si2 (by decide) (by decide) hZ)
    obtain ⟨⟨rfl, q94⟩, -⟩ := Q94
    have q94 := q94.symm
    subst q94
    have A94 := AA94 [] all0
    refine Run.st (T94.setTop (mkF m 37 #[.val (.ref a1), .val (.ref b1), .val (.ref b1)] [(.int (bI (d1 = d2)))])) st94 ?_
    by_cases c95 : d1 = d2
    · refine Run.st (T94.setTop (mkF m 45 #[.val (.ref a1), .val (.ref b1), .val (.ref b1)] [(.int (1 : Int32))])) (fun _ k => XS.ifNo A94.here hx rfl (hb hby d12_37) rfl (by rw [if0]; exact (feq (bI1 c95)).1) (XS.iconst A94.here hx rfl (hb hby d12_40) (XS.goto A94.here hx rfl (pc0 := 41) (pc' := 45) rfl (hb hby d12_41) (by decide) (by decide) k))) ?_
      exact A94.leaveN hlk (some (.int (1 : Int32))) (fun q => by rw [hrt] at q; cases q) (by decide) (by decide) ⟨by rw [bIt ⟨c91, c95⟩], rfl⟩ (fun X hr => retN X hx (t := .boolean) hrt (by simp) (hb hby d12_45) hr)
    · refine Run.st (T94.setTop (mkF m 45 #[.val (.ref a1), .val (.ref b1), .val (.ref b1)] [(.int (0 : Int32))])) (fun _ k => XS.ifYes A94.here hx rfl (pc0 := 37) (pc' := 44) rfl (hb hby d12_37) rfl (by rw [if0]; exact (teq (bI0 c95)).1) (by decide) (by decide) (XS.iconst A94.here hx rfl (hb hby d12_44) k)) ?_
      exact A94.leaveN hlk (some (.int (0 : Int32))) (fun q => by rw [hrt] at q; cases q) (by decide) (by decide) ⟨by rw [bI0 (fun q => c95 q.2)], rfl⟩ (fun X hr => retN X hx (t := .boolean) hrt (by simp) (hb hby d12_45) hr)
  · refine Run.st (T90.setTop (mkF m 45 #[.val (.ref a1), .val (.ref b1), .val (.ref b1)] [(.int (0 : Int32))])) (fun _ k => XS.ifYes A90.here hx rfl (pc0 := 23) (pc' := 44) rfl (hb hby d12_23) rfl (by rw [if0]; exact (teq (bI0 c91)).1) (by decide) (by decide) (XS.iconst A90.here hx rfl (hb hby d12_44) k)) ?_
    exact A90.leaveN hlk (some (.int (0 : Int32))) (fun q => by rw [hrt] at q; cases q) (by decide) (by decide) ⟨by rw [bI0 (fun q => c91 q.1)], rfl⟩ (fun X hr => retN X hx (t := .boolean) hrt (by simp) (hb hby d12_45) hr)
theorem ef_law (m : MethodId) (y0 : Int32) (y1 : Int32) (y2 : Int32) (y3 : Int32) (y4 : Int32) : entryFrame m #[(.int y0), (.int y1), (.int y2), (.int y3), (.int y4)] maxLocals = mkF m 0 #[.val (.int y0), .val (.int y1), .val (.int y2), .val (.int y3), .val (.int y4), .unset, .unset, .unset, .unset, .unset, .unset] [] := by first | (simp [entryFrame, mkF, argsToLocals, Value.category, maxLocals]; done) | rfl
def Q_law (Z : State) (p0 : Int32) (p1 : Int32) (p2 : Int32) (p3 : Int32) (p4 : Int32) (h0 : Heap) (v : Option Value) (h : Heap) : Prop := v = some (.int 1)
set_option maxRecDepth 65536 in
set_option maxHeartbeats 40000000 in
theorem ct_law {l : Launch} {Z : State} {a0 : Array Value} (H : Ev Z a0) (p0 : Int32) (p1 : Int32) (p2 : Int32) (p3 : Int32) (p4 : Int32) {h0 : Heap} {n0 : Nat} (O0 : Old Z n0 h0) : CtrW l Z EL x code maxLocals ret tables_1 room_1 #[(.int p0), (.int p1), (.int p2), (.int p3), (.int p4)] h0 [] n0 (Q_law Z p0 p1 p2 p3 p4 h0) := by
  refine enterW (a0 := a0) (plainFor_of_name pn_1) (elA H) O0 all0 ?_
  intro p e s m below meth c T0 hx hby hml hrt hnm hlk hh0 A0
  replace A0 : Wk true Z a0 EL n0 h0 [] "com/example/hecate/hecate/HolderEqualsPinLaw" p l e room_1 s m #[(.int p0), (.int p1), (.int p2), (.int p3), (.int p4)] below meth c [] T0 h0 0 0 := A0
  refine Run.st (T0.setTop (mkF m 0 #[.val (.int p0), .val (.int p1), .val (.int p2), .val (.int p3), .val (.int p4), .unset, .unset, .unset, .unset, .unset, .unset] [])) (fun _ k => castTop (ef_law m p0 p1 p2 p3 p4) k) ?_
  refine Run.st (T0.setTop (mkF m 4 #[.val (.int p0), .val (.int p1), .val (.int p2), .val (.int p3), .val (.int p4), .unset, .unset, .unset, .unset, .unset, .unset] [(.int (p4 &&& (1 : Int32)))])) (fun _ k => XS.iload A0.here hx rfl (hb hby at_0) rfl (XS.iconst A0.here hx rfl (hb hby at_2) (XS.iand A0.here hx rfl (hb hby at_3) rfl k))) ?_
  have jn97 : ∀ (T97 : State) (z96 : Int32), Wk true Z a0 EL n0 h0 [] "com/example/hecate/hecate/HolderEqualsPinLaw" p l e room_1 s m #[(.int p0), (.int p1), (.int p2), (.int p3), (.int p4)] below meth c [] T97 h0 0 0 → Run p.tables e below (EndW Z EL s h0 [] n0 room_1 (Q_law Z p0 p1 p2 p3 p4 h0)) (T97.setTop (mkF m 12 #[.val (.int p0), .val (.int p1), .val (.int p2), .val (.int p3), .val (.int p4), .unset, .unset, .unset, .unset, .unset, .unset] [(.int z96)])) := by
    intro T97 z96 A97
    refine Run.st (T97.setTop (mkF m 18 #[.val (.int p0), .val (.int p1), .val (.int p2), .val (.int p3), .val (.int p4), .val (.int z96), .unset, .unset, .unset, .unset, .unset] [(.int (p4 &&& (2 : Int32)))])) (fun _ k => XS.istore A97.here hx rfl (hb hby at_12) rfl (l' := #[.val (.int p0), .val (.int p1), .val (.int p2), .val (.int p3), .val (.int p4), .val (.int z96), .unset, .unset, .unset, .unset, .unset]) rfl (XS.iload A97.here hx rfl (hb hby at_14) rfl (XS.iconst A97.here hx rfl (hb hby at_16) (XS.iand A97.here hx rfl (hb hby at_17) rfl k)))) ?_
    have jn99 : ∀ (T99 : State) (z98 : Int32), Wk true Z a0 EL n0 h0 [] "com/example/hecate/hecate/HolderEqualsPinLaw" p l e room_1 s m #[(.int p0), (.int p1), (.int p2), (.int p3), (.int p4)] below meth c [] T99 h0 0 0 → Run p.tables e below (EndW Z EL s h0 [] n0 room_1 (Q_law Z p0 p1 p2 p3 p4 h0)) (T99.setTop (mkF m 26 #[.val (.int p0), .val (.int p1), .val (.int p2), .val (.int p3), .val (.int p4), .val (.int z96), .unset, .unset, .unset, .unset, .unset] [(.int z98)])) := by
      intro T99 z98 A99
      refine Run.st (T99.setTop (mkF m 28 #[.val (.int p0), .val (.int p1), .val (.int p2), .val (.int p3), .val (.int p4), .val (.int z96), .val (.int z98), .unset, .unset, .unset, .unset] [])) (fun _ k => XS.istore A99.here hx rfl (hb hby at_26) rfl (l' := #[.val (.int p0), .val (.int p1), .val (.int p2), .val (.int p3), .val (.int p4), .val (.int z96), .val (.int z98), .unset, .unset, .unset, .unset]) rfl k) ?_
      obtain ⟨a100, T100, h100, A100, E100, g100, Ex100, D100, st100⟩ := A99.newO hx (tw0 H.1) (tw1 H.1) (tw2 H.1) (g := (mkF m 28 #[.val (.int p0), .val (.int p1), .val (.int p2), .val (.int p3), .val (.int p4), .val (.int z96), .val (.int z98), .unset, .unset, .unset, .unset] [])) rfl (hb hby at_28) (by decide) (by decide)
      refine Run.st (T100.setTop (mkF m 31 #[.val (.int p0), .val (.int p1), .val (.int p2), .val (.int p3), .val (.int p4), .val (.int z96), .val (.int z98), .unset, .unset, .unset, .unset] [(.ref a100)])) st100 ?_
      refine Run.st (T100.setTop (mkF m 33 #[.val (.int p0), .val (.int p1), .val (.int p2), .val (.int p3), .val (.int p4), .val (.int z96), .val (.int z98), .unset, .unset, .unset, .unset] [(.int p0), (.ref a100), (.ref a100)])) (fun _ k => XS.dup A100.here hx rfl (hb hby at_31) rfl rfl (XS.iloadN A100.here hx rfl (hb hby at_32) rfl k)) ?_
      obtain ⟨v101, T101, h101, A101, K101, ⟨L101, Q101⟩, st101⟩ := A100.callSW hx (tw3 H.1) (tw4 H.1) (tw5 H.1) (tw6 H.1) (by decide) (g := (mkF m 33 #[.val (.int p0), .val (.int p1), .val (.int p2), .val (.int p3), .val (.int p4), .val (.int z96), .val (.int z98), .unset, .unset, .unset, .unset] [(.int p0), (.ref a100), (.ref a100)])) rfl (by rw [hml]; rfl) [(.int p0)] [(.ref a100), (.ref a100)] (lenOf pd_9 rfl) rfl (Wd := 2) (by show 2 * 0 + _ ≤ _; exact Nat.le_of_eq rfl) (hb hby at_33) (by decide) (by decide) [] (fun _ _ _ q => q.2) all0 (fun vm0 hZ hE hC hS => payW (ct_mk H p0 A100.old) (tw6 H.1) (tw5 H.1) (by decide) (by decide) hZ hE hC hS)
      obtain ⟨Q101, N101, -⟩ := Q101
      obtain ⟨a101, rfl, X101, S101⟩ := Q101
      refine Run.st (T101.setTop (mkF m 36 #[.val (.int p0), .val (.int p1), .val (.int p2), .val (.int p3), .val (.int p4), .val (.int z96), .val (.int z98), .unset, .unset, .unset, .unset] [(.ref a101), (.ref a100), (.ref a100)])) st101 ?_
      refine Run.st (T101.setTop (mkF m 37 #[.val (.int p0), .val (.int p1), .val (.int p2), .val (.int p3), .val (.int p4), .val (.int z96), .val (.int z98), .unset, .unset, .unset, .unset] [(.int p2), (.ref a101), (.ref a100), (.ref a100)])) (fun _ k => XS.iloadN A101.here hx rfl (hb hby at_36) rfl k) ?_
      obtain ⟨v102, T102, h102, A102, K102, ⟨L102, Q102⟩, st102⟩ := A101.callSW hx (tw3 H.1) (tw4 H.1) (tw5 H.1) (tw6 H.1) (by decide) (g := (mkF m 37 #[.val (.int p0), .val (.int p1), .val (.int p2), .val (.int p3), .val (.int p4), .val (.int z96), .val (.int z98), .unset, .unset, .unset, .unset] [(.int p2), (.ref a101), (.ref a100), (.ref a100)])) rfl (by rw [hml]; rfl) [(.int p2)] [(.ref a101), (.ref a100), (.ref a100)] (lenOf pd_9 rfl) rfl (Wd := 3) (by show 2 * 0 + _ ≤ _; exact Nat.le_of_eq rfl) (hb hby at_37) (by decide) (by decide) [] (fun _ _ _ q => q.2) all0 (fun vm0 hZ hE hC hS => payW (ct_mk H p2 A101.old) (tw6 H.1) (tw5 H.1) (by decide) (by decide) hZ hE hC hS)
      obtain ⟨Q102, N102, -⟩ := Q102
      obtain ⟨a102, rfl, X102, S102⟩ := Q102
      refine Run.st (T102.setTop (mkF m 40 #[.val (.int p0), .val (.int p1), .val (.int p2), .val (.int p3), .val (.int p4), .val (.int z96), .val (.int z98), .unset, .unset, .unset, .unset] [(.ref a102), (.ref a101), (.ref a100), (.ref a100)])) st102 ?_
      have F104 : Fld Z h100 a100 "com/example/hecate/hecate/Holder" "owner" "Ljava/lang/String;" .null := D100 (Or.inr (tw37 H.1)) (ty := (.object "java/lang/String")) (by decide)
      have F105 : Fld Z h100 a100 "com/example/hecate/hecate/Holder" "instanceId" "Ljava/lang/String;" .null := D100 (Or.inr (tw39 H.1)) (ty := (.object "java/lang/String")) (by decide)
      have X106 : Ext h100 h101 := X101
      have X107 : Ext h100 h102 := (extT X106 X102)
      have f108 := Ex100.ext X107
      have f109 := F104.ext X107
      have f110 := F105.ext X107
      obtain ⟨v103, T103, h103, AA103, K103, ⟨L103, Q103⟩, st103⟩ := A102.callI hx (y := (⟨"com/example/hecate/hecate/Holder", "<init>", "(Ljava/lang/String;Ljava/lang/String;)V"⟩ : MethodName)) rfl (tw32 H.1) (tw33 H.1) (tw34 H.1) (by decide) (g := (mkF m 40 #[.val (.int p0), .val (.int p1), .val (.int p2), .val (.int p3), .val (.int p4), .val (.int z96), .val (.int z98), .unset, .unset, .unset, .unset] [(.ref a102), (.ref a101), (.ref a100), (.ref a100)])) rfl (by rw [hml]; rfl) a100 [(.ref a101), (.ref a102)] [(.ref a100)] (lenOf pd_10 rfl) rfl (Wd := 1) (by show 2 * 0 + _ ≤ _; exact Nat.le_of_eq rfl) (hb hby at_40) (by decide) (by decide) [a100] (fun _ _ _ q => q.2) (allS (List.mem_of_getElem? (i := 0) rfl) all0) (fun vm0 hZ => payN (ct_holder H a100 a101 a102 .null .null A102.old f108 (A102.nle (List.mem_of_getElem? (i := 0) rfl)) f108.lt f109 f110) (tw34 H.1) (tw2 H.1) (by decide) (by decide) hZ)
      obtain ⟨Q103, N103, -⟩ := Q103
      obtain ⟨rfl, Ec103, Fc103_owner, Fc103_instanceId⟩ := Q103
      have A103 := AA103 [] all0
      refine Run.st (T103.setTop (mkF m 43 #[.val (.int p0), .val (.int p1), .val (.int p2), .val (.int p3), .val (.int p4), .val (.int z96), .val (.int z98), .unset, .unset, .unset, .unset] [(.ref a100)])) st103 ?_
      refine Run.st (T103.setTop (mkF m 45 #[.val (.int p0), .val (.int p1), .val (.int p2), .val (.int p3), .val (.int p4), .val (.int z96), .val (.int z98), .val (.ref a100), .unset, .unset, .unset] [])) (fun _ k => XS.astore A103.here hx rfl (hb hby at_43) rfl rfl (l' := #[.val (.int p0), .val (.int p1), .val (.int p2), .val (.int p3), .val (.int p4), .val (.int z96), .val (.int z98), .val (.ref a100), .unset, .unset, .unset]) rfl k) ?_
      obtain ⟨a111, T111, h111, A111, E111, g111, Ex111, D111, st111⟩ := A103.newO hx (tw0 H.1) (tw1 H.1) (tw2 H.1) (g := (mkF m 45 #[.val (.int p0), .val (.int p1), .val (.int p2), .val (.int p3), .val (.int p4), .val (.int z96), .val (.int z98), .val (.ref a100), .unset, .unset, .unset] [])) rfl (hb hby at_45) (by decide) (by decide)
      refine Run.st (T111.setTop (mkF m 48 #[.val (.int p0), .val (.int p1), .val (.int p2), .val (.int p3), .val (.int p4), .val (.int z96), .val (.int z98), .val (.ref a100), .unset, .unset, .unset] [(.ref a111)])) st111 ?_
      refine Run.st (T111.setTop (mkF m 51 #[.val (.int p0), .val (.int p1), .val (.int p2), .val (.int p3), .val (.int p4), .val (.int z96), .val (.int z98), .val (.ref a100), .unset, .unset, .unset] [(.int z96), (.ref a111), (.ref a111)])) (fun _ k => XS.dup A111.here hx rfl (hb hby at_48) rfl rfl (XS.iload A111.here hx rfl (hb hby at_49) rfl k)) ?_
      obtain ⟨v112, T112, h112, A112, K112, ⟨L112, Q112⟩, st112⟩ := A111.callSW hx (tw3 H.1) (tw4 H.1) (tw5 H.1) (tw6 H.1) (by decide) (g := (mkF m 51 #[.val (.int p0), .val (.int p1), .val (.int p2), .val (.int p3), .val (.int p4), .val (.int z96), .val (.int z98), .val (.ref a100), .unset, .unset, .unset] [(.int z96), (.ref a111), (.ref a111)])) rfl (by rw [hml]; rfl) [(.int z96)] [(.ref a111), (.ref a111)] (lenOf pd_9 rfl) rfl (Wd := 2) (by show 2 * 0 + _ ≤ _; exact Nat.le_of_eq rfl) (hb hby at_51) (by decide) (by decide) [] (fun _ _ _ q => q.2) all0 (fun vm0 hZ hE hC hS => payW (ct_mk H z96 A111.old) (tw6 H.1) (tw5 H.1) (by decide) (by decide) hZ hE hC hS)
      obtain ⟨Q112, N112, -⟩ := Q112
      obtain ⟨a112, rfl, X112, S112⟩ := Q112
      refine Run.st (T112.setTop (mkF m 54 #[.val (.int p0), .val (.int p1), .val (.int p2), .val (.int p3), .val (.int p4), .val (.int z96), .val (.int z98), .val (.ref a100), .unset, .unset, .unset] [(.ref a112), (.ref a111), (.ref a111)])) st112 ?_
      refine Run.st (T112.setTop (mkF m 56 #[.val (.int p0), .val (.int p1), .val (.int p2), .val (.int p3), .val (.int p4), .val (.int z96), .val (.int z98), .val (.ref a100), .unset, .unset, .unset] [(.int z98), (.ref a112), (.ref a111), (.ref a111)])) (fun _ k => XS.iload A112.here hx rfl (hb hby at_54) rfl k) ?_
      obtain ⟨v113, T113, h113, A113, K113, ⟨L113, Q113⟩, st113⟩ := A112.callSW hx (tw3 H.1) (tw4 H.1) (tw5 H.1) (tw6 H.1) (by decide) (g := (mkF m 56 #[.val (.int p0), .val (.int p1), .val (.int p2), .val (.int p3), .val (.int p4), .val (.int z96), .val (.int z98), .val (.ref a100), .unset, .unset, .unset] [(.int z98), (.ref a112), (.ref a111), (.ref a111)])) rfl (by rw [hml]; rfl) [(.int z98)] [(.ref a112), (.ref a111), (.ref a111)] (lenOf pd_9 rfl) rfl (Wd := 3) (by show 2 * 0 + _ ≤ _; exact Nat.le_of_eq rfl) (hb hby at_56) (by decide) (by decide) [] (fun _ _ _ q => q.2) all0 (fun vm0 hZ hE hC hS => payW (ct_mk H z98 A112.old) (tw6 H.1) (tw5 H.1) (by decide) (by decide) hZ hE hC hS)
      obtain ⟨Q113, N113, -⟩ := Q113
      obtain ⟨a113, rfl, X113, S113⟩ := Q113
      refine Run.st (T113.setTop (mkF m 59 #[.val (.int p0), .val (.int p1), .val (.int p2), .val (.int p3), .val (.int p4), .val (.int z96), .val (.int z98), .val (.ref a100), .unset, .unset, .unset] [(.ref a113), (.ref a112), (.ref a111), (.ref a111)])) st113 ?_
      have F115 : Fld Z h111 a111 "com/example/hecate/hecate/Holder" "owner" "Ljava/lang/String;" .null := D111 (Or.inr (tw37 H.1)) (ty := (.object "java/lang/String")) (by decide)
      have F116 : Fld Z h111 a111 "com/example/hecate/hecate/Holder" "instanceId" "Ljava/lang/String;" .null := D111 (Or.inr (tw39 H.1)) (ty := (.object "java/lang/String")) (by decide)
      have X117 : Ext h111 h112 := X112
      have X118 : Ext h111 h113 := (extT X117 X113)
      have f119 := Ex111.ext X118
      have f120 := F115.ext X118
      have f121 := F116.ext X118
      obtain ⟨v114, T114, h114, AA114, K114, ⟨L114, Q114⟩, st114⟩ := A113.callI hx (y := (⟨"com/example/hecate/hecate/Holder", "<init>", "(Ljava/lang/String;Ljava/lang/String;)V"⟩ : MethodName)) rfl (tw32 H.1) (tw33 H.1) (tw34 H.1) (by decide) (g := (mkF m 59 #[.val (.int p0), .val (.int p1), .val (.int p2), .val (.int p3), .val (.int p4), .val (.int z96), .val (.int z98), .val (.ref a100), .unset, .unset, .unset] [(.ref a113), (.ref a112), (.ref a111), (.ref a111)])) rfl (by rw [hml]; rfl) a111 [(.ref a112), (.ref a113)] [(.ref a111)] (lenOf pd_10 rfl) rfl (Wd := 1) (by show 2 * 0 + _ ≤ _; exact Nat.le_of_eq rfl) (hb hby at_59) (by decide) (by decide) [a111] (fun _ _ _ q => q.2) (allS (List.mem_of_getElem? (i := 0) rfl) all0) (fun vm0 hZ => payN (ct_holder H a111 a112 a113 .null .null A113.old f119 (A113.nle (List.mem_of_getElem? (i := 0) rfl)) f119.lt f120 f121) (tw34 H.1) (tw2 H.1) (by decide) (by decide) hZ)
      obtain ⟨Q114, N114, -⟩ := Q114
      obtain ⟨rfl, Ec114, Fc114_owner, Fc114_instanceId⟩ := Q114
      have A114 := AA114 [] all0
      refine Run.st (T114.setTop (mkF m 62 #[.val (.int p0), .val (.int p1), .val (.int p2), .val (.int p3), .val (.int p4), .val (.int z96), .val (.int z98), .val (.ref a100), .unset, .unset, .unset] [(.ref a111)])) st114 ?_
      refine Run.st (T114.setTop (mkF m 75 #[.val (.int p0), .val (.int p1), .val (.int p2), .val (.int p3), .val (.int p4), .val (.int z96), .val (.int z98), .val (.ref a100), .val (.ref a111), .val (.int ((XT.ushr p4 (2 : Int32)) &&& (3 : Int32))), .unset] [(.int (1 : Int32)), (.int ((XT.ushr p4 (2 : Int32)) &&& (3 : Int32)))])) (fun _ k => XS.astore A114.here hx rfl (hb hby at_62) rfl rfl (l' := #[.val (.int p0), .val (.int p1), .val (.int p2), .val (.int p3), .val (.int p4), .val (.int z96), .val (.int z98), .val (.ref a100), .val (.ref a111), .unset, .unset]) rfl (XS.iload A114.here hx rfl (hb hby at_64) rfl (XS.iconst A114.here hx rfl (hb hby at_66) (XT.iushr A114.here hx rfl (hb hby at_67) rfl (XS.iconst A114.here hx rfl (hb hby at_68) (XS.iand A114.here hx rfl (hb hby at_69) rfl (XS.istore A114.here hx rfl (hb hby at_70) rfl (l' := #[.val (.int p0), .val (.int p1), .val (.int p2), .val (.int p3), .val (.int p4), .val (.int z96), .val (.int z98), .val (.ref a100), .val (.ref a111), .val (.int ((XT.ushr p4 (2 : Int32)) &&& (3 : Int32))), .unset]) rfl (XS.iload A114.here hx rfl (hb hby at_72) rfl (XS.iconst A114.here hx rfl (hb hby at_74) k))))))))) ?_
      by_cases c122 : ((XT.ushr p4 (2 : Int32)) &&& (3 : Int32)) = (1 : Int32)
      · refine Run.st (T114.setTop (mkF m 81 #[.val (.int p0), .val (.int p1), .val (.int p2), .val (.int p3), .val (.int p4), .val (.int z96), .val (.int z98), .val (.ref a100), .val (.ref a111), .val (.int ((XT.ushr p4 (2 : Int32)) &&& (3 : Int32))), .unset] [.null, (.ref a100)])) (fun _ k => XS.icmpNo A114.here hx rfl (hb hby at_75) rfl (teq c122).2 (XS.aload A114.here hx rfl (hb hby at_78) rfl rfl (XS.aconstNull A114.here hx rfl (hb hby at_80) k))) ?_
        have X124 : Ext h103 h111 := E111
        have X125 : Ext h103 h112 := (extT X124 X112)
        have X126 : Ext h103 h113 := (extT X125 X113)
        have X127 : Ext h103 h114 := extK X126 K114 (allS (Nat.le_of_eq g111) all0)
        have f128 := Ec103.ext X127
        obtain ⟨v123, T123, h123, AA123, K123, ⟨L123, Q123⟩, st123⟩ := A114.callV hx (y := (⟨"com/example/hecate/hecate/Holder", "equals", "(Ljava/lang/Object;)Z"⟩ : MethodName)) (z := (⟨"com/example/hecate/hecate/Holder", "equals", "(Ljava/lang/Object;)Z"⟩ : MethodName)) (tw43 H.1) (tw44 H.1) (tw46 H.1) (tw45 H.1) (nfSel (tw46 H.1)) (by decide) f128 (g := (mkF m 81 #[.val (.int p0), .val (.int p1), .val (.int p2), .val (.int p3), .val (.int p4), .val (.int z96), .val (.int z98), .val (.ref a100), .val (.ref a111), .val (.int ((XT.ushr p4 (2 : Int32)) &&& (3 : Int32))), .unset] [.null, (.ref a100)])) rfl (by rw [hml]; rfl) [.null] [] (lenOf pd_8 rfl) rfl (Wd := 0) (by show 2 * 0 + _ ≤ _; exact Nat.le_of_eq rfl) (hb hby at_81) (by decide) (by decide) [] (fun _ _ _ q => q.2) all0 (fun vm0 hZ => payN (ct_eqn H a100 A114.old) (tw47 H.1) (tw2 H.1) (by decide) (by decide) hZ)
        obtain ⟨Q123, N123, -⟩ := Q123
        obtain ⟨rfl, q123⟩ := Q123
        have q123 := q123.symm
        subst q123
        have A123 := AA123 [] all0
        refine Run.st (T123.setTop (mkF m 84 #[.val (.int p0), .val (.int p1), .val (.int p2), .val (.int p3), .val (.int p4), .val (.int z96), .val (.int z98), .val (.ref a100), .val (.ref a111), .val (.int ((XT.ushr p4 (2 : Int32)) &&& (3 : Int32))), .unset] [(.int (0 : Int32))])) st123 ?_
        refine Run.st (T123.setTop (mkF m 92 #[.val (.int p0), .val (.int p1), .val (.int p2), .val (.int p3), .val (.int p4), .val (.int z96), .val (.int z98), .val (.ref a100), .val (.ref a111), .val (.int ((XT.ushr p4 (2 : Int32)) &&& (3 : Int32))), .unset] [(.int (1 : Int32))])) (fun _ k => XS.ifNo A123.here hx rfl (hb hby at_84) rfl (by decide) (XS.iconst A123.here hx rfl (hb hby at_87) (XS.goto A123.here hx rfl (pc0 := 88) (pc' := 92) rfl (hb hby at_88) (by decide) (by decide) k))) ?_
        exact A123.leaveW hlk hh0 (some (.int (1 : Int32))) (fun q => by rw [hrt] at q; cases q) (by decide) (by decide) rfl (fun X hr => retN X hx (t := .boolean) hrt (by simp) (hb hby at_92) hr)
      · refine Run.st (T114.setTop (mkF m 96 #[.val (.int p0), .val (.int p1), .val (.int p2), .val (.int p3), .val (.int p4), .val (.int z96), .val (.int z98), .val (.ref a100), .val (.ref a111), .val (.int ((XT.ushr p4 (2 : Int32)) &&& (3 : Int32))), .unset] [(.int (2 : Int32)), (.int ((XT.ushr p4 (2 : Int32)) &&& (3 : Int32)))])) (fun _ k => XS.icmpYes A114.here hx rfl (pc0 := 75) (pc' := 93) rfl (hb hby at_75) rfl (feq c122).2 (by decide) (by decide) (XS.iload A114.here hx rfl (hb hby at_93) rfl (XS.iconst A114.here hx rfl (hb hby at_95) k))) ?_
        by_cases c129 : ((XT.ushr p4 (2 : Int32)) &&& (3 : Int32)) = (2 : Int32)
        · refine Run.st (T114.setTop (mkF m 102 #[.val (.int p0), .val (.int p1), .val (.int p2), .val (.int p3), .val (.int p4), .val (.int z96), .val (.int z98), .val (.ref a100), .val (.ref a111), .val (.int ((XT.ushr p4 (2 : Int32)) &&& (3 : Int32))), .unset] [(.int p0), (.ref a100)])) (fun _ k => XS.icmpNo A114.here hx rfl (hb hby at_96) rfl (teq c129).2 (XS.aload A114.here hx rfl (hb hby at_99) rfl rfl (XS.iloadN A114.here hx rfl (hb hby at_101) rfl k))) ?_
          obtain ⟨v130, T130, h130, A130, K130, ⟨L130, Q130⟩, st130⟩ := A114.callSW hx (tw3 H.1) (tw4 H.1) (tw5 H.1) (tw6 H.1) (by decide) (g := (mkF m 102 #[.val (.int p0), .val (.int p1), .val (.int p2), .val (.int p3), .val (.int p4), .val (.int z96), .val (.int z98), .val (.ref a100), .val (.ref a111), .val (.int ((XT.ushr p4 (2 : Int32)) &&& (3 : Int32))), .unset] [(.int p0), (.ref a100)])) rfl (by rw [hml]; rfl) [(.int p0)] [(.ref a100)] (lenOf pd_9 rfl) rfl (Wd := 1) (by show 2 * 0 + _ ≤ _; exact Nat.le_of_eq rfl) (hb hby at_102) (by decide) (by decide) [] (fun _ _ _ q => q.2) all0 (fun vm0 hZ hE hC hS => payW (ct_mk H p0 A114.old) (tw6 H.1) (tw5 H.1) (by decide) (by decide) hZ hE hC hS)
          obtain ⟨Q130, N130, -⟩ := Q130
          obtain ⟨a130, rfl, X130, S130⟩ := Q130
          refine Run.st (T130.setTop (mkF m 105 #[.val (.int p0), .val (.int p1), .val (.int p2), .val (.int p3), .val (.int p4), .val (.int z96), .val (.int z98), .val (.ref a100), .val (.ref a111), .val (.int ((XT.ushr p4 (2 : Int32)) &&& (3 : Int32))), .unset] [(.ref a130), (.ref a100)])) st130 ?_
          have X132 : Ext h103 h111 := E111
          have X133 : Ext h103 h112 := (extT X132 X112)
          have X134 : Ext h103 h113 := (extT X133 X113)
          have X135 : Ext h103 h114 := extK X134 K114 (allS (Nat.le_of_eq g111) all0)
          have X136 : Ext h103 h130 := (extT X135 X130)
          have f137 := Ec103.ext X136
          obtain ⟨v131, T131, h131, AA131, K131, ⟨L131, Q131⟩, st131⟩ := A130.callV hx (y := (⟨"com/example/hecate/hecate/Holder", "equals", "(Ljava/lang/Object;)Z"⟩ : MethodName)) (z := (⟨"com/example/hecate/hecate/Holder", "equals", "(Ljava/lang/Object;)Z"⟩ : MethodName)) (tw43 H.1) (tw44 H.1) (tw46 H.1) (tw45 H.1) (nfSel (tw46 H.1)) (by decide) f137 (g := (mkF m 105 #[.val (.int p0), .val (.int p1), .val (.int p2), .val (.int p3), .val (.int p4), .val (.int z96), .val (.int z98), .val (.ref a100), .val (.ref a111), .val (.int ((XT.ushr p4 (2 : Int32)) &&& (3 : Int32))), .unset] [(.ref a130), (.ref a100)])) rfl (by rw [hml]; rfl) [(.ref a130)] [] (lenOf pd_8 rfl) rfl (Wd := 0) (by show 2 * 0 + _ ≤ _; exact Nat.le_of_eq rfl) (hb hby at_105) (by decide) (by decide) [] (fun _ _ _ q => q.2) all0 (fun vm0 hZ => payN (ct_eqst H a100 a130 A130.old S130.1) (tw47 H.1) (tw2 H.1) (by decide) (by decide) hZ)
          obtain ⟨Q131, N131, -⟩ := Q131
          obtain ⟨rfl, q131⟩ := Q131
          have q131 := q131.symm
          subst q131
          have A131 := AA131 [] all0
          refine Run.st (T131.setTop (mkF m 108 #[.val (.int p0), .val (.int p1), .val (.int p2), .val (.int p3), .val (.int p4), .val (.int z96), .val (.int z98), .val (.ref a100), .val (.ref a111), .val (.int ((XT.ushr p4 (2 : Int32)) &&& (3 : Int32))), .unset] [(.int (0 : Int32))])) st131 ?_
          refine Run.st (T131.setTop (mkF m 116 #[.val (.int p0), .val (.int p1), .val (.int p2), .val (.int p3), .val (.int p4), .val (.int z96), .val (.int z98), .val (.ref a100), .val (.ref a111), .val (.int ((XT.ushr p4 (2 : Int32)) &&& (3 : Int32))), .unset] [(.int (1 : Int32))])) (fun _ k => XS.ifNo A131.here hx rfl (hb hby at_108) rfl (by decide) (XS.iconst A131.here hx rfl (hb hby at_111) (XS.goto A131.here hx rfl (pc0 := 112) (pc' := 116) rfl (hb hby at_112) (by decide) (by decide) k))) ?_
          exact A131.leaveW hlk hh0 (some (.int (1 : Int32))) (fun q => by rw [hrt] at q; cases q) (by decide) (by decide) rfl (fun X hr => retN X hx (t := .boolean) hrt (by simp) (hb hby at_116) hr)
        · refine Run.st (T114.setTop (mkF m 120 #[.val (.int p0), .val (.int p1), .val (.int p2), .val (.int p3), .val (.int p4), .val (.int z96), .val (.int z98), .val (.ref a100), .val (.ref a111), .val (.int ((XT.ushr p4 (2 : Int32)) &&& (3 : Int32))), .unset] [(.int (3 : Int32)), (.int ((XT.ushr p4 (2 : Int32)) &&& (3 : Int32)))])) (fun _ k => XS.icmpYes A114.here hx rfl (pc0 := 96) (pc' := 117) rfl (hb hby at_96) rfl (feq c129).2 (by decide) (by decide) (XS.iload A114.here hx rfl (hb hby at_117) rfl (XS.iconst A114.here hx rfl (hb hby at_119) k))) ?_
          by_cases c138 : ((XT.ushr p4 (2 : Int32)) &&& (3 : Int32)) = (3 : Int32)
          · refine Run.st (T114.setTop (mkF m 127 #[.val (.int p0), .val (.int p1), .val (.int p2), .val (.int p3), .val (.int p4), .val (.int z96), .val (.int z98), .val (.ref a100), .val (.ref a111), .val (.int ((XT.ushr p4 (2 : Int32)) &&& (3 : Int32))), .unset] [(.ref a100), (.ref a100)])) (fun _ k => XS.icmpNo A114.here hx rfl (hb hby at_120) rfl (teq c138).2 (XS.aload A114.here hx rfl (hb hby at_123) rfl rfl (XS.aload A114.here hx rfl (hb hby at_125) rfl rfl k))) ?_
            have X140 : Ext h103 h111 := E111
            have X141 : Ext h103 h112 := (extT X140 X112)
            have X142 : Ext h103 h113 := (extT X141 X113)
            have X143 : Ext h103 h114 := extK X142 K114 (allS (Nat.le_of_eq g111) all0)
            have f144 := Ec103.ext X143
            have f145 := Fc103_owner.ext X143
            have f146 := Fc103_instanceId.ext X143
            have f147 := (StrA.keepO ((((StrA.keepO (S101.ext X102) K103 f108 (by decide) (tw1 H.1)).ext E111).ext X112).ext X113) K114 f119 (by decide) (tw1 H.1))
            have f148 := (StrA.keepO ((((StrA.keepO S102 K103 f108 (by decide) (tw1 H.1)).ext E111).ext X112).ext X113) K114 f119 (by decide) (tw1 H.1))
            obtain ⟨v139, T139, h139, AA139, K139, ⟨L139, Q139⟩, st139⟩ := A114.callV hx (y := (⟨"com/example/hecate/hecate/Holder", "equals", "(Ljava/lang/Object;)Z"⟩ : MethodName)) (z := (⟨"com/example/hecate/hecate/Holder", "equals", "(Ljava/lang/Object;)Z"⟩ : MethodName)) (tw43 H.1) (tw44 H.1) (tw46 H.1) (tw45 H.1) (nfSel (tw46 H.1)) (by decide) f144 (g := (mkF m 127 #[.val (.int p0), .val (.int p1), .val (.int p2), .val (.int p3), .val (.int p4), .val (.int z96), .val (.int z98), .val (.ref a100), .val (.ref a111), .val (.int ((XT.ushr p4 (2 : Int32)) &&& (3 : Int32))), .unset] [(.ref a100), (.ref a100)])) rfl (by rw [hml]; rfl) [(.ref a100)] [] (lenOf pd_8 rfl) rfl (Wd := 0) (by show 2 * 0 + _ ≤ _; exact Nat.le_of_eq rfl) (hb hby at_127) (by decide) (by decide) [] (fun _ _ _ q => q.2) all0 (fun vm0 hZ => payN (ct_eqh H a100 a100 a101 a102 a101 a102 (mkL p0) (mkL p2) (mkL p0) (mkL p2) A114.old f144 f145 f146 f145 f146 f147 f148 f147 f148) (tw47 H.1) (tw2 H.1) (by decide) (by decide) hZ)
            obtain ⟨Q139, N139, -⟩ := Q139
            obtain ⟨rfl, q139⟩ := Q139
            have q139 := q139.symm
            subst q139
            have A139 := AA139 [] all0
            refine Run.st (T139.setTop (mkF m 130 #[.val (.int p0), .val (.int p1), .val (.int p2), .val (.int p3), .val (.int p4), .val (.int z96), .val (.int z98), .val (.ref a100), .val (.ref a111), .val (.int ((XT.ushr p4 (2 : Int32)) &&& (3 : Int32))), .unset] [(.int (bI ((mkL p0) = (mkL p0) ∧ (mkL p2) = (mkL p2))))])) st139 ?_
            exact A139.leaveW hlk hh0 (some (.int (bI ((mkL p0) = (mkL p0) ∧ (mkL p2) = (mkL p2))))) (fun q => by rw [hrt] at q; cases q) (by decide) (by decide) (by show some (Value.int _) = _; rw [bIt ⟨rfl, rfl⟩]) (fun X hr => retOut X hx (w := (.int (bI ((mkL p0) = (mkL p0) ∧ (mkL p2) = (mkL p2))))) (t := .boolean) hrt (narZ b01b) (Or.inl ⟨rfl, Or.inr (Or.inl rfl), _, rfl⟩) (hb hby at_130) hr)
          · refine Run.st (T114.setTop (mkF m 134 #[.val (.int p0), .val (.int p1), .val (.int p2), .val (.int p3), .val (.int p4), .val (.int z96), .val (.int z98), .val (.ref a100), .val (.ref a111), .val (.int ((XT.ushr p4 (2 : Int32)) &&& (3 : Int32))), .unset] [(.int z96), (.int p0)])) (fun _ k => XS.icmpYes A114.here hx rfl (pc0 := 120) (pc' := 131) rfl (hb hby at_120) rfl (feq c138).2 (by decide) (by decide) (XS.iloadN A114.here hx rfl (hb hby at_131) rfl (XS.iload A114.here hx rfl (hb hby at_132) rfl k))) ?_
            obtain ⟨v149, T149, h149, AA149, K149, ⟨L149, Q149⟩, st149⟩ := A114.callS hx (tw40 H.1) (tw41 H.1) (tw5 H.1) (tw42 H.1) (by decide) (g := (mkF m 134 #[.val (.int p0), .val (.int p1), .val (.int p2), .val (.int p3), .val (.int p4), .val (.int z96), .val (.int z98), .val (.ref a100), .val (.ref a111), .val (.int ((XT.ushr p4 (2 : Int32)) &&& (3 : Int32))), .unset] [(.int z96), (.int p0)])) rfl (by rw [hml]; rfl) [(.int p0), (.int z96)] [] (lenOf pd_11 rfl) rfl (Wd := 0) (by show 2 * 0 + _ ≤ _; exact Nat.le_of_eq rfl) (hb hby at_134) (by decide) (by decide) [] (fun _ _ _ q => q.2) all0 (fun vm0 hZ => payN (ct_same H p0 z96 A114.old) (tw42 H.1) (tw5 H.1) (by decide) (by decide) hZ)
            obtain ⟨Q149, N149, -⟩ := Q149
            obtain ⟨rfl, q149⟩ := Q149
            have q149 := q149.symm
            subst q149
            have A149 := AA149 [] all0
            refine Run.st (T149.setTop (mkF m 137 #[.val (.int p0), .val (.int p1), .val (.int p2), .val (.int p3), .val (.int p4), .val (.int z96), .val (.int z98), .val (.ref a100), .val (.ref a111), .val (.int ((XT.ushr p4 (2 : Int32)) &&& (3 : Int32))), .unset] [(.int (bI (mkL p0 = mkL z96)))])) st149 ?_
            have jn151 : ∀ (T151 : State) (z150 : Int32), Wk true Z a0 EL n0 h0 [] "com/example/hecate/hecate/HolderEqualsPinLaw" p l e room_1 s m #[(.int p0), (.int p1), (.int p2), (.int p3), (.int p4)] below meth c [a111, a100] T151 h114 26 52 → (z150 = bI ((mkL p0) = (mkL z96) ∧ (mkL p2) = (mkL z98))) → Run p.tables e below (EndW Z EL s h0 [] n0 room_1 (Q_law Z p0 p1 p2 p3 p4 h0)) (T151.setTop (mkF m 154 #[.val (.int p0), .val (.int p1), .val (.int p2), .val (.int p3), .val (.int p4), .val (.int z96), .val (.int z98), .val (.ref a100), .val (.ref a111), .val (.int ((XT.ushr p4 (2 : Int32)) &&& (3 : Int32))), .unset] [(.int z150)])) := by
              intro T151 z150 A151 hz150
              subst hz150
              refine Run.st (T151.setTop (mkF m 160 #[.val (.int p0), .val (.int p1), .val (.int p2), .val (.int p3), .val (.int p4), .val (.int z96), .val (.int z98), .val (.ref a100), .val (.ref a111), .val (.int ((XT.ushr p4 (2 : Int32)) &&& (3 : Int32))), .val (.int (bI ((mkL p0) = (mkL z96) ∧ (mkL p2) = (mkL z98))))] [(.ref a111), (.ref a100)])) (fun _ k => XS.istore A151.here hx rfl (hb hby at_154) rfl (l' := #[.val (.int p0), .val (.int p1), .val (.int p2), .val (.int p3), .val (.int p4), .val (.int z96), .val (.int z98), .val (.ref a100), .val (.ref a111), .val (.int ((XT.ushr p4 (2 : Int32)) &&& (3 : Int32))), .val (.int (bI ((mkL p0) = (mkL z96) ∧ (mkL p2) = (mkL z98))))]) rfl (XS.aload A151.here hx rfl (hb hby at_156) rfl rfl (XS.aload A151.here hx rfl (hb hby at_158) rfl rfl k))) ?_
              have X153 : Ext h103 h111 := E111
              have X154 : Ext h103 h112 := (extT X153 X112)
              have X155 : Ext h103 h113 := (extT X154 X113)
              have X156 : Ext h103 h114 := extK X155 K114 (allS (Nat.le_of_eq g111) all0)
              have f157 := Fc103_owner.ext X156
              have f158 := Fc103_instanceId.ext X156
              have f159 := (StrA.keepO ((((StrA.keepO (S101.ext X102) K103 f108 (by decide) (tw1 H.1)).ext E111).ext X112).ext X113) K114 f119 (by decide) (tw1 H.1))
              have f160 := (StrA.keepO ((((StrA.keepO S102 K103 f108 (by decide) (tw1 H.1)).ext E111).ext X112).ext X113) K114 f119 (by decide) (tw1 H.1))
              have f161 := (StrA.keepO (S112.ext X113) K114 f119 (by decide) (tw1 H.1))
              have f162 := (StrA.keepO S113 K114 f119 (by decide) (tw1 H.1))
              have f163 := Ec103.ext X156
              obtain ⟨v152, T152, h152, AA152, K152, ⟨L152, Q152⟩, st152⟩ := A151.callV hx (y := (⟨"com/example/hecate/hecate/Holder", "equals", "(Ljava/lang/Object;)Z"⟩ : MethodName)) (z := (⟨"com/example/hecate/hecate/Holder", "equals", "(Ljava/lang/Object;)Z"⟩ : MethodName)) (tw43 H.1) (tw44 H.1) (tw46 H.1) (tw45 H.1) (nfSel (tw46 H.1)) (by decide) f163 (g := (mkF m 160 #[.val (.int p0), .val (.int p1), .val (.int p2), .val (.int p3), .val (.int p4), .val (.int z96), .val (.int z98), .val (.ref a100), .val (.ref a111), .val (.int ((XT.ushr p4 (2 : Int32)) &&& (3 : Int32))), .val (.int (bI ((mkL p0) = (mkL z96) ∧ (mkL p2) = (mkL z98))))] [(.ref a111), (.ref a100)])) rfl (by rw [hml]; rfl) [(.ref a111)] [] (lenOf pd_8 rfl) rfl (Wd := 0) (by show 2 * 0 + _ ≤ _; exact Nat.le_of_eq rfl) (hb hby at_160) (by decide) (by decide) [] (fun _ _ _ q => q.2) all0 (fun vm0 hZ => payN (ct_eqh H a100 a111 a101 a102 a112 a113 (mkL p0) (mkL p2) (mkL z96) (mkL z98) A151.old Ec114 f157 f158 Fc114_owner Fc114_instanceId f159 f160 f161 f162) (tw47 H.1) (tw2 H.1) (by decide) (by decide) hZ)
              obtain ⟨Q152, N152, -⟩ := Q152
              obtain ⟨rfl, q152⟩ := Q152
              have q152 := q152.symm
              subst q152
              have A152 := AA152 [] all0
              refine Run.st (T152.setTop (mkF m 163 #[.val (.int p0), .val (.int p1), .val (.int p2), .val (.int p3), .val (.int p4), .val (.int z96), .val (.int z98), .val (.ref a100), .val (.ref a111), .val (.int ((XT.ushr p4 (2 : Int32)) &&& (3 : Int32))), .val (.int (bI ((mkL p0) = (mkL z96) ∧ (mkL p2) = (mkL z98))))] [(.int (bI ((mkL p0) = (mkL z96) ∧ (mkL p2) = (mkL z98))))])) st152 ?_
              refine Run.st (T152.setTop (mkF m 172 #[.val (.int p0), .val (.int p1), .val (.int p2), .val (.int p3), .val (.int p4), .val (.int z96), .val (.int z98), .val (.ref a100), .val (.ref a111), .val (.int ((XT.ushr p4 (2 : Int32)) &&& (3 : Int32))), .val (.int (bI ((mkL p0) = (mkL z96) ∧ (mkL p2) = (mkL z98))))] [(.ref a100), (.ref a111)])) (fun _ k => XS.iload A152.here hx rfl (hb hby at_163) rfl (XS.icmpNo A152.here hx rfl (hb hby at_165) rfl (teq rfl).2 (XS.aload A152.here hx rfl (hb hby at_168) rfl rfl (XS.aload A152.here hx rfl (hb hby at_170) rfl rfl k)))) ?_
              obtain ⟨v164, T164, h164, AA164, K164, ⟨L164, Q164⟩, st164⟩ := A152.callV hx (y := (⟨"com/example/hecate/hecate/Holder", "equals", "(Ljava/lang/Object;)Z"⟩ : MethodName)) (z := (⟨"com/example/hecate/hecate/Holder", "equals", "(Ljava/lang/Object;)Z"⟩ : MethodName)) (tw43 H.1) (tw44 H.1) (tw46 H.1) (tw45 H.1) (nfSel (tw46 H.1)) (by decide) Ec114 (g := (mkF m 172 #[.val (.int p0), .val (.int p1), .val (.int p2), .val (.int p3), .val (.int p4), .val (.int z96), .val (.int z98), .val (.ref a100), .val (.ref a111), .val (.int ((XT.ushr p4 (2 : Int32)) &&& (3 : Int32))), .val (.int (bI ((mkL p0) = (mkL z96) ∧ (mkL p2) = (mkL z98))))] [(.ref a100), (.ref a111)])) rfl (by rw [hml]; rfl) [(.ref a100)] [] (lenOf pd_8 rfl) rfl (Wd := 0) (by show 2 * 0 + _ ≤ _; exact Nat.le_of_eq rfl) (hb hby at_172) (by decide) (by decide) [] (fun _ _ _ q => q.2) all0 (fun vm0 hZ => payN (ct_eqh H a111 a100 a112 a113 a101 a102 (mkL z96) (mkL z98) (mkL p0) (mkL p2) A152.old f163 Fc114_owner Fc114_instanceId f157 f158 f161 f162 f159 f160) (tw47 H.1) (tw2 H.1) (by decide) (by decide) hZ)
              obtain ⟨Q164, N164, -⟩ := Q164
              obtain ⟨rfl, q164⟩ := Q164
              have q164 := q164.symm
              subst q164
              have A164 := AA164 [] all0
              refine Run.st (T164.setTop (mkF m 175 #[.val (.int p0), .val (.int p1), .val (.int p2), .val (.int p3), .val (.int p4), .val (.int z96), .val (.int z98), .val (.ref a100), .val (.ref a111), .val (.int ((XT.ushr p4 (2 : Int32)) &&& (3 : Int32))), .val (.int (bI ((mkL p0) = (mkL z96) ∧ (mkL p2) = (mkL z98))))] [(.int (bI ((mkL z96) = (mkL p0) ∧ (mkL z98) = (mkL p2))))])) st164 ?_
              refine Run.st (T164.setTop (mkF m 185 #[.val (.int p0), .val (.int p1), .val (.int p2), .val (.int p3), .val (.int p4), .val (.int z96), .val (.int z98), .val (.ref a100), .val (.ref a111), .val (.int ((XT.ushr p4 (2 : Int32)) &&& (3 : Int32))), .val (.int (bI ((mkL p0) = (mkL z96) ∧ (mkL p2) = (mkL z98))))] [(.int (1 : Int32))])) (fun _ k => XS.iload A164.here hx rfl (hb hby at_175) rfl (XS.icmpNo A164.here hx rfl (hb hby at_177) rfl (teq (bIc ⟨fun q => ⟨q.1.symm, q.2.symm⟩, fun q => ⟨q.1.symm, q.2.symm⟩⟩)).2 (XS.iconst A164.here hx rfl (hb hby at_180) (XS.goto A164.here hx rfl (pc0 := 181) (pc' := 185) rfl (hb hby at_181) (by decide) (by decide) k)))) ?_
              exact A164.leaveW hlk hh0 (some (.int (1 : Int32))) (fun q => by rw [hrt] at q; cases q) (by decide) (by decide) rfl (fun X hr => retN X hx (t := .boolean) hrt (by simp) (hb hby at_185) hr)
            by_cases c165 : mkL p0 = mkL z96
            · refine Run.st (T149.setTop (mkF m 143 #[.val (.int p0), .val (.int p1), .val (.int p2), .val (.int p3), .val (.int p4), .val (.int z96), .val (.int z98), .val (.ref a100), .val (.ref a111), .val (.int ((XT.ushr p4 (2 : Int32)) &&& (3 : Int32))), .unset] [(.int z98), (.int p2)])) (fun _ k => XS.ifNo A149.here hx rfl (hb hby at_137) rfl (by rw [if0]; exact (feq (bI1 c165)).1) (XS.iloadN A149.here hx rfl (hb hby at_140) rfl (XS.iload A149.here hx rfl (hb hby at_141) rfl k))) ?_
              obtain ⟨v166, T166, h166, AA166, K166, ⟨L166, Q166⟩, st166⟩ := A149.callS hx (tw40 H.1) (tw41 H.1) (tw5 H.1) (tw42 H.1) (by decide) (g := (mkF m 143 #[.val (.int p0), .val (.int p1), .val (.int p2), .val (.int p3), .val (.int p4), .val (.int z96), .val (.int z98), .val (.ref a100), .val (.ref a111), .val (.int ((XT.ushr p4 (2 : Int32)) &&& (3 : Int32))), .unset] [(.int z98), (.int p2)])) rfl (by rw [hml]; rfl) [(.int p2), (.int z98)] [] (lenOf pd_11 rfl) rfl (Wd := 0) (by show 2 * 0 + _ ≤ _; exact Nat.le_of_eq rfl) (hb hby at_143) (by decide) (by decide) [] (fun _ _ _ q => q.2) all0 (fun vm0 hZ => payN (ct_same H p2 z98 A149.old) (tw42 H.1) (tw5 H.1) (by decide) (by decide) hZ)
              obtain ⟨Q166, N166, -⟩ := Q166
              obtain ⟨rfl, q166⟩ := Q166
              have q166 := q166.symm
              subst q166
              have A166 := AA166 [] all0
              refine Run.st (T166.setTop (mkF m 146 #[.val (.int p0), .val (.int p1), .val (.int p2), .val (.int p3), .val (.int p4), .val (.int z96), .val (.int z98), .val (.ref a100), .val (.ref a111), .val (.int ((XT.ushr p4 (2 : Int32)) &&& (3 : Int32))), .unset] [(.int (bI (mkL p2 = mkL z98)))])) st166 ?_
              by_cases c167 : mkL p2 = mkL z98
              · refine Run.st (T166.setTop (mkF m 154 #[.val (.int p0), .val (.int p1), .val (.int p2), .val (.int p3), .val (.int p4), .val (.int z96), .val (.int z98), .val (.ref a100), .val (.ref a111), .val (.int ((XT.ushr p4 (2 : Int32)) &&& (3 : Int32))), .unset] [(.int (1 : Int32))])) (fun _ k => XS.ifNo A166.here hx rfl (hb hby at_146) rfl (by rw [if0]; exact (feq (bI1 c167)).1) (XS.iconst A166.here hx rfl (hb hby at_149) (XS.goto A166.here hx rfl (pc0 := 150) (pc' := 154) rfl (hb hby at_150) (by decide) (by decide) k))) ?_
                exact jn151 T166 (1 : Int32) (A166.mono (by decide) (by decide)) (bIt ⟨c165, c167⟩).symm
              · refine Run.st (T166.setTop (mkF m 154 #[.val (.int p0), .val (.int p1), .val (.int p2), .val (.int p3), .val (.int p4), .val (.int z96), .val (.int z98), .val (.ref a100), .val (.ref a111), .val (.int ((XT.ushr p4 (2 : Int32)) &&& (3 : Int32))), .unset] [(.int (0 : Int32))])) (fun _ k => XS.ifYes A166.here hx rfl (pc0 := 146) (pc' := 153) rfl (hb hby at_146) rfl (by rw [if0]; exact (teq (bI0 c167)).1) (by decide) (by decide) (XS.iconst A166.here hx rfl (hb hby at_153) k)) ?_
                exact jn151 T166 (0 : Int32) (A166.mono (by decide) (by decide)) (bI0 (fun q => c167 q.2)).symm
            · refine Run.st (T149.setTop (mkF m 154 #[.val (.int p0), .val (.int p1), .val (.int p2), .val (.int p3), .val (.int p4), .val (.int z96), .val (.int z98), .val (.ref a100), .val (.ref a111), .val (.int ((XT.ushr p4 (2 : Int32)) &&& (3 : Int32))), .unset] [(.int (0 : Int32))])) (fun _ k => XS.ifYes A149.here hx rfl (pc0 := 137) (pc' := 153) rfl (hb hby at_137) rfl (by rw [if0]; exact (teq (bI0 c165)).1) (by decide) (by decide) (XS.iconst A149.here hx rfl (hb hby at_153) k)) ?_
              exact jn151 T149 (0 : Int32) (A149.mono (by decide) (by decide)) (bI0 (fun q => c165 q.1)).symm
    by_cases c168 : (p4 &&& (2 : Int32)) = (0 : Int32)
    · refine Run.st (T97.setTop (mkF m 26 #[.val (.int p0), .val (.int p1), .val (.int p2), .val (.int p3), .val (.int p4), .val (.int z96), .unset, .unset, .unset, .unset, .unset] [(.int p3)])) (fun _ k => XS.ifYes A97.here hx rfl (pc0 := 18) (pc' := 25) rfl (hb hby at_18) rfl (by rw [if0]; exact (teq c168).1) (by decide) (by decide) (XS.iloadN A97.here hx rfl (hb hby at_25) rfl k)) ?_
      exact jn99 T97 p3 (A97.mono (by decide) (by decide))
    · refine Run.st (T97.setTop (mkF m 26 #[.val (.int p0), .val (.int p1), .val (.int p2), .val (.int p3), .val (.int p4), .val (.int z96), .unset, .unset, .unset, .unset, .unset] [(.int p2)])) (fun _ k => XS.ifNo A97.here hx rfl (hb hby at_18) rfl (by rw [if0]; exact (feq c168).1) (XS.iloadN A97.here hx rfl (hb hby at_21) rfl (XS.goto A97.here hx rfl (pc0 := 22) (pc' := 26) rfl (hb hby at_22) (by decide) (by decide) k))) ?_
      exact jn99 T97 p2 (A97.mono (by decide) (by decide))
  by_cases c169 : (p4 &&& (1 : Int32)) = (0 : Int32)
  · refine Run.st (T0.setTop (mkF m 12 #[.val (.int p0), .val (.int p1), .val (.int p2), .val (.int p3), .val (.int p4), .unset, .unset, .unset, .unset, .unset, .unset] [(.int p1)])) (fun _ k => XS.ifYes A0.here hx rfl (pc0 := 4) (pc' := 11) rfl (hb hby at_4) rfl (by rw [if0]; exact (teq c169).1) (by decide) (by decide) (XS.iloadN A0.here hx rfl (hb hby at_11) rfl k)) ?_
    exact jn97 T0 p1 (A0.mono (by decide) (by decide))
  · refine Run.st (T0.setTop (mkF m 12 #[.val (.int p0), .val (.int p1), .val (.int p2), .val (.int p3), .val (.int p4), .unset, .unset, .unset, .unset, .unset, .unset] [(.int p0)])) (fun _ k => XS.ifNo A0.here hx rfl (hb hby at_4) rfl (by rw [if0]; exact (feq c169).1) (XS.iloadN A0.here hx rfl (hb hby at_7) rfl (XS.goto A0.here hx rfl (pc0 := 8) (pc' := 12) rfl (hb hby at_8) (by decide) (by decide) k))) ?_
    exact jn97 T0 p0 (A0.mono (by decide) (by decide))
set_option maxRecDepth 65536 in
set_option maxHeartbeats 40000000 in
theorem comes_1 {Post : Tables → Env → Array Value → State → Outcome → State → Prop} (hpost : ∀ tb e args s v u, (limb_1_1.after args s (.returned v) u = true ∧ limb_1_2.after args s (.returned v) u = true ∧ True) → ReturnedEndW s (.returned v) u (Jvm.fieldLocs frame_1_writes args s ++ Jvm.arrayLocs frame_1_arrays args s ++ Jvm.staticLocs frame_1_statics s) 48 1216 → Post tb e args s (.returned v) u) :
    ArmFor flags0 classFile x code maxLocals ret World_1 tables_1 room_1 Calls_1 rest_1 Pre_1 Post := by
  intro l hfl _ _ p e ha hc hk s m args below hf hA hF happ hP
  obtain ⟨hcalls, hrest, hpre⟩ := hP
  obtain ⟨-, -, -, hnamed, -, -, -, hat⟩ := (Spec.applies_iff hf).mp happ
  obtain ⟨hg, hn⟩ := and_e (Cond.before_iff.mp (show (Jvm.Cond.and given_1 narrow_1).before args s = true from hpre))
  obtain ⟨h1, h2⟩ := and_e hg
  obtain ⟨w0, w1, w2, w3, w4, rfl⟩ : ∃ w0 w1 w2 w3 w4 : Value, args = #[w0, w1, w2, w3, w4] := by
    have hs : args.size = 5 := by simpa [Cond.value, given_1] using h1
    obtain ⟨L⟩ := args
    match L, hs with
    | [w0, w1, w2, w3, w4], _ => exact ⟨w0, w1, w2, w3, w4, rfl⟩
  obtain ⟨g0, r1⟩ := and_e h2
  obtain ⟨i0, e0⟩ := is_v g0
  obtain rfl : w0 = (.int i0) := Option.some.inj e0
  obtain ⟨g1, r2⟩ := and_e r1
  obtain ⟨i1, e1⟩ := is_v g1
  obtain rfl : w1 = (.int i1) := Option.some.inj e1
  obtain ⟨g2, r3⟩ := and_e r2
  obtain ⟨i2, e2⟩ := is_v g2
  obtain rfl : w2 = (.int i2) := Option.some.inj e2
  obtain ⟨g3, r4⟩ := and_e r3
  obtain ⟨i3, e3⟩ := is_v g3
  obtain rfl : w3 = (.int i3) := Option.some.inj e3
  obtain ⟨i4, e4⟩ := is_v r4
  obtain rfl : w4 = (.int i4) := Option.some.inj e4
  have hw := fun d (hd : d ∈ tables_1) => atoms_spec (ws := Jvm.Cond.code x code maxLocals ret :: tables_1) hat d (List.mem_cons_of_mem _ hd)
  obtain ⟨hsets, hown0⟩ := atoms_of _ (rest_1_c_eq ▸ (show rest_1_c.before _ s = true from hrest))
  have n3 := not_v (Cond.before_iff.mp (hsets _ (List.mem_of_getElem? (i := 2) rfl)))
  obtain ⟨iz, ez⟩ := is_v (Cond.before_iff.mp (hsets _ (List.mem_of_getElem? (i := 1) rfl)))
  have Sz : Sta s s.heap "java/lang/String" "COMPACT_STRINGS" "Z" (.int iz) := Sta.start ez (Or.inl (hsets _ (List.mem_of_getElem? (i := 0) rfl)))
  obtain ⟨vf, ef, rf⟩ := isR_v (Cond.before_iff.mp (hsets _ (List.mem_of_getElem? (i := 8) rfl)))
  have Sf : Sta s s.heap "jdk/internal/util/Preconditions" "SIOOBE_FORMATTER" "Ljava/util/function/BiFunction;" vf := Sta.start ef (Or.inl (hsets _ (List.mem_of_getElem? (i := 7) rfl)))
  have cz : ¬ (iz = (0 : Int32)) := gotF (Cond.eq_ints ez (Term.int_eval (0))) n3
  have H : Ev s _ := ⟨hw, ⟨iz, Sz, cz⟩, ⟨vf, Sf, rf⟩⟩
  have hCH : CHv s EL s.vm s.heap := CHv.start (elA H) (show ∀ p ∈ EL, Jvm.Lit.constHeld s p.1 p.2 from hcalls.1) (hcw := hsets _ (List.mem_of_getElem? (i := 2) rfl)) (H.1 _ (by decide +kernel : Jvm.Cond.arrayClass .byte ∈ tables_1)) (H.1 _ (by decide +kernel : Jvm.Cond.instantiable "java/lang/String" 4 ∈ tables_1))
  obtain ⟨n, o, h1, h2, h3, _, L, rfl, ⟨hQ, N, -⟩, -, hq⟩ := ct_law (l := l) H i0 i1 i2 i3 i4 (Old.start s) p e ha hc hk s m _ below hf ((Spec.applies_iff_loose hf).mp happ).1 ⟨rfl, State.Warmed39.refl s, rfl, hCH, all0⟩ trivial
  cases hQ
  refine ⟨n, _, h1, h2, h3, hpost _ _ _ _ _ _ ⟨Cond.after_iff.mpr rfl, Cond.after_iff.mpr (eq_i res_at (Term.int_eval (1)) rfl), trivial⟩ ⟨hq.1, hq.2.1, hq.2.2.1, (hq.2.2.2.sift fun y hy => Or.inr (N y hy)).mono (by decide) (by decide)⟩⟩
theorem main_1_1 : Claimed_1_1 := comes_1 fun _ _ _ _ _ _ h hF => ⟨h.1, hF⟩
theorem main_1_2 : Claimed_1_2 := comes_1 fun _ _ _ _ _ _ h hF => ⟨h.2.1, hF⟩
end Jvm.Pilot.@@N@@
namespace Jvm.Pilot.@@N@@
open Jvm Jvm.ClassFile Sem Op Lib Jvm.Free Jvm.Stand Jvm.Pilot.@@N@@.Jvm.D
/-! MADE BY PROGRAM (witnessworld.py) out of the Statement's table words and the real class files: 20 classes; the members and pool entries that the words name. The judged class is class 1, her method 6. -/
namespace start1
open Jvm.ClassFile
def u (s : String) : CpInfo := .utf8 (stringToUtf16 s)
/-- a pool by its gaps: so many unusable entries, then the entry; so many at the end -/
def gap : Nat → List CpInfo → List CpInfo
  | 0, r => r
  | n + 1, r => .unusable :: gap n r
def poolList (es : List (Nat × CpInfo)) (last : Nat) : List CpInfo := es.foldr (fun e r => gap e.1 (e.2 :: r)) (gap last [])
def pool (es : List (Nat × CpInfo)) (last : Nat) : Array CpInfo := ⟨poolList es last⟩
def fileOf (pool : Array CpInfo) (this : Nat) (attrs : Array Attribute := #[]) (ms : Array MethodInfo := #[]) (fl : Nat := 33) (sup : Nat := 0) (ifs : Array Nat := #[]) (fds : Array FieldInfo := #[]) : ClassFile where
  minorVersion := 0
  majorVersion := 65
  constantPool := pool
  accessFlags := fl
  thisClass := this
  superClass := sup
  interfaces := ifs
  fields := fds
  methods := ms
  attributes := attrs
def plain (name : String) (sup : Option ClassId) : Class where
  name := name
  kind := .ordinary
  loader := none
  accessFlags := 33
  super := sup
  interfaces := #[]
  cf := none
  fields := #[]
  methods := #[]
  instanceTypes := #[]
  staticTypes := #[]
  resolved := #[]
  callSites := []
  init := .initialized
  statics := none
  mirror := none

def pool0 : Array CpInfo := pool [(5, u "<init>"), (0, u "()V"), (1, .class_ 10), (1, u "java/lang/Object")] 113

def k0c0 : Code := { maxStack := 0, maxLocals := 1, code := object_method_1_code, exceptionTable := #[], attributes := #[] }
def k0m0 : Method := { name := "<init>", desc := "()V", sig := { parameters := [], returnType := none }, accessFlags := 1, code := some k0c0 }
/-- java/lang/Object -/
def k0 : Class := { plain "java/lang/Object" none with
  accessFlags := 33
  interfaces := #[]
  cf := some (fileOf pool0 8 #[] #[{ accessFlags := 1, nameIndex := 5, descriptorIndex := 6, attributes := #[] }] 33 0 #[] #[])
  fields := #[]
  methods := #[k0m0]
  instanceTypes := #[]
  staticTypes := #[]
  resolved := Array.replicate 124 none
  statics := none }

def pool1 : Array CpInfo := pool [(2, .class_ 4), (1, u "java/lang/Object"), (0, u "<init>"), (0, u "()V"), (0, .methodref 8 9), (0, .class_ 10), (0, .nameAndType 11 12), (0, u "com/example/hecate/hecate/HolderEqualsPinLaw"), (0, u "len"), (0, u "(I)I"), (0, .class_ 14), (0, u "java/lang/String"), (0, .methodref 13 16), (0, .nameAndType 5 17), (0, u "([C)V"), (0, .methodref 8 19), (0, .nameAndType 20 21), (0, u "ch0"), (0, u "(I)C"), (0, .methodref 13 23), (0, .nameAndType 24 25), (0, u "valueOf"), (0, u "(C)Ljava/lang/String;"), (0, .methodref 8 27), (0, .nameAndType 28 21), (0, u "ch1"), (0, .class_ 30), (0, u "com/example/hecate/hecate/Holder"), (0, .methodref 8 32), (0, .nameAndType 33 34), (0, u "mk"), (0, u "(I)Ljava/lang/String;"), (0, .methodref 29 36), (0, .nameAndType 5 37), (0, u "(Ljava/lang/String;Ljava/lang/String;)V"), (0, .methodref 29 39), (0, .nameAndType 40 41), (0, u "equals"), (0, u "(Ljava/lang/Object;)Z"), (0, .methodref 8 43), (0, .nameAndType 44 45), (0, u "same"), (0, u "(II)Z"), (3, u "law"), (0, u "(IIIII)Z")] 2

def k1m0 : Method := { name := "<init>", desc := "()V", sig := { parameters := [], returnType := none }, accessFlags := 1, code := none }
def k1c1 : Code := { maxStack := 2, maxLocals := 1, code := method_2_code, exceptionTable := #[], attributes := #[] }
def k1m1 : Method := { name := "len", desc := "(I)I", sig := { parameters := [.int], returnType := some .int }, accessFlags := 10, code := some k1c1 }
def k1c2 : Code := { maxStack := 2, maxLocals := 1, code := method_3_code, exceptionTable := #[], attributes := #[] }
def k1m2 : Method := { name := "ch0", desc := "(I)C", sig := { parameters := [.int], returnType := some .char }, accessFlags := 10, code := some k1c2 }
def k1c3 : Code := { maxStack := 2, maxLocals := 1, code := method_4_code, exceptionTable := #[], attributes := #[] }
def k1m3 : Method := { name := "ch1", desc := "(I)C", sig := { parameters := [.int], returnType := some .char }, accessFlags := 10, code := some k1c3 }
def k1c4 : Code := { maxStack := 3, maxLocals := 3, code := method_5_code, exceptionTable := #[], attributes := #[] }
def k1m4 : Method := { name := "mk", desc := "(I)Ljava/lang/String;", sig := { parameters := [.int], returnType := some (.object "java/lang/String") }, accessFlags := 10, code := some k1c4 }
def k1c5 : Code := { maxStack := 2, maxLocals := 3, code := method_6_code, exceptionTable := #[], attributes := #[] }
def k1m5 : Method := { name := "same", desc := "(II)Z", sig := { parameters := [.int, .int], returnType := some .boolean }, accessFlags := 10, code := some k1c5 }
def k1c6 : Code := { maxStack := 4, maxLocals := 11, code := code, exceptionTable := #[], attributes := #[] }
def k1m6 : Method := { name := "law", desc := "(IIIII)Z", sig := { parameters := [.int, .int, .int, .int, .int], returnType := some .boolean }, accessFlags := 9, code := some k1c6 }
/-- com/example/hecate/hecate/HolderEqualsPinLaw -/
def k1 : Class := { plain "com/example/hecate/hecate/HolderEqualsPinLaw" (some 0) with
  accessFlags := 49
  interfaces := #[]
  cf := some (fileOf pool1 8 #[] #[{ accessFlags := 1, nameIndex := 5, descriptorIndex := 6, attributes := #[] }, { accessFlags := 10, nameIndex := 11, descriptorIndex := 12, attributes := #[] }, { accessFlags := 10, nameIndex := 20, descriptorIndex := 21, attributes := #[] }, { accessFlags := 10, nameIndex := 28, descriptorIndex := 21, attributes := #[] }, { accessFlags := 10, nameIndex := 33, descriptorIndex := 34, attributes := #[] }, { accessFlags := 10, nameIndex := 44, descriptorIndex := 45, attributes := #[] }, { accessFlags := 9, nameIndex := 49, descriptorIndex := 50, attributes := #[] }] 49 2 #[] #[])
  fields := #[]
  methods := #[k1m0, k1m1, k1m2, k1m3, k1m4, k1m5, k1m6]
  instanceTypes := #[]
  staticTypes := #[]
  resolved := Array.replicate 53 none
  statics := none }

def pool2 : Array CpInfo := pool [(1, .methodref 2 3), (0, .class_ 4), (0, .nameAndType 5 6), (0, u "java/lang/Object"), (0, u "<init>"), (0, u "()V"), (0, .fieldref 8 9), (0, .class_ 10), (0, .nameAndType 11 12), (0, u "com/example/hecate/hecate/Holder"), (0, u "owner"), (0, u "Ljava/lang/String;"), (0, .fieldref 8 14), (0, .nameAndType 15 12), (0, u "instanceId"), (7, .class_ 25), (1, u "java/lang/String"), (8, .methodref 23 35), (0, .nameAndType 36 37), (0, u "equals"), (0, u "(Ljava/lang/Object;)Z"), (6, u "(Ljava/lang/String;Ljava/lang/String;)V")] 10

def k2c0 : Code := { maxStack := 2, maxLocals := 3, code := prog_2_method_1_code, exceptionTable := #[], attributes := #[] }
def k2m0 : Method := { name := "<init>", desc := "(Ljava/lang/String;Ljava/lang/String;)V", sig := { parameters := [(.object "java/lang/String"), (.object "java/lang/String")], returnType := none }, accessFlags := 0, code := some k2c0 }
def k2c1 : Code := { maxStack := 2, maxLocals := 3, code := prog_2_method_4_code, exceptionTable := #[], attributes := #[] }
def k2m1 : Method := { name := "equals", desc := "(Ljava/lang/Object;)Z", sig := { parameters := [(.object "java/lang/Object")], returnType := some .boolean }, accessFlags := 1, code := some k2c1 }
/-- com/example/hecate/hecate/Holder -/
def k2 : Class := { plain "com/example/hecate/hecate/Holder" (some 0) with
  accessFlags := 32
  interfaces := #[]
  cf := some (fileOf pool2 8 #[] #[{ accessFlags := 0, nameIndex := 5, descriptorIndex := 44, attributes := #[] }, { accessFlags := 1, nameIndex := 36, descriptorIndex := 37, attributes := #[] }] 32 2 #[] #[{ accessFlags := 18, nameIndex := 11, descriptorIndex := 12, attributes := #[] }, { accessFlags := 18, nameIndex := 15, descriptorIndex := 12, attributes := #[] }])
  fields := #[{ name := "owner", type := (.object "java/lang/String"), accessFlags := 18, slot := 0, constantValue := 0 }, { name := "instanceId", type := (.object "java/lang/String"), accessFlags := 18, slot := 1, constantValue := 0 }]
  methods := #[k2m0, k2m1]
  instanceTypes := #[(.object "java/lang/String"), (.object "java/lang/String")]
  staticTypes := #[]
  resolved := Array.replicate 55 none
  statics := none }

def pool3 : Array CpInfo := pool [(1, .class_ 2), (0, u "java/io/Serializable"), (0, .class_ 4), (0, u "java/lang/Object")] 2

/-- java/io/Serializable -/
def k3 : Class := { plain "java/io/Serializable" (some 0) with
  accessFlags := 1537
  interfaces := #[]
  cf := some (fileOf pool3 1 #[] #[] 1537 3 #[] #[])
  fields := #[]
  methods := #[]
  instanceTypes := #[]
  staticTypes := #[]
  resolved := Array.replicate 7 none
  statics := none }

def pool4 : Array CpInfo := pool [(1, .class_ 2), (0, u "java/lang/Comparable"), (0, .class_ 4), (0, u "java/lang/Object")] 7

/-- java/lang/Comparable -/
def k4 : Class := { plain "java/lang/Comparable" (some 0) with
  accessFlags := 1537
  interfaces := #[]
  cf := some (fileOf pool4 1 #[] #[] 1537 3 #[] #[])
  fields := #[]
  methods := #[]
  instanceTypes := #[]
  staticTypes := #[]
  resolved := Array.replicate 12 none
  statics := none }

def pool5 : Array CpInfo := pool [(2, .class_ 4), (1, u "java/lang/CharSequence"), (42, .class_ 48), (0, u "java/lang/CharSequence$1CodePointIterator"), (10, .class_ 60), (0, u "java/lang/CharSequence$1CharIterator"), (5, .class_ 67), (0, u "java/lang/Object")] 63

/-- java/lang/CharSequence -/
def k5 : Class := { plain "java/lang/CharSequence" (some 0) with
  accessFlags := 1537
  interfaces := #[]
  cf := some (fileOf pool5 2 #[.nestMembers #[47, 59]] #[] 1537 66 #[] #[])
  fields := #[]
  methods := #[]
  instanceTypes := #[]
  staticTypes := #[]
  resolved := Array.replicate 131 none
  statics := none }

def pool6 : Array CpInfo := pool [(1, .class_ 2), (0, u "java/lang/constant/Constable"), (0, .class_ 4), (0, u "java/lang/Object")] 6

/-- java/lang/constant/Constable -/
def k6 : Class := { plain "java/lang/constant/Constable" (some 0) with
  accessFlags := 1537
  interfaces := #[]
  cf := some (fileOf pool6 1 #[] #[] 1537 3 #[] #[])
  fields := #[]
  methods := #[]
  instanceTypes := #[]
  staticTypes := #[]
  resolved := Array.replicate 11 none
  statics := none }

def pool7 : Array CpInfo := pool [(1, .class_ 2), (0, u "java/lang/constant/ConstantDesc"), (0, .class_ 4), (0, u "java/lang/Object")] 32

/-- java/lang/constant/ConstantDesc -/
def k7 : Class := { plain "java/lang/constant/ConstantDesc" (some 0) with
  accessFlags := 1537
  interfaces := #[]
  cf := some (fileOf pool7 1 #[] #[] 1537 3 #[] #[])
  fields := #[]
  methods := #[]
  instanceTypes := #[]
  staticTypes := #[]
  resolved := Array.replicate 37 none
  statics := none }

def pool8 : Array CpInfo := pool [(1, .methodref 2 3), (0, .class_ 4), (0, .nameAndType 5 6), (0, u "java/lang/Object"), (0, u "<init>"), (0, u "()V"), (0, .string 8), (0, u ""), (0, .fieldref 10 11), (0, .class_ 12), (0, .nameAndType 13 14), (0, u "java/lang/String"), (0, u "value"), (0, u "[B"), (0, .fieldref 10 16), (0, .nameAndType 17 18), (0, u "coder"), (0, u "B"), (2, u "hash"), (0, u "I"), (2, u "hashIsZero"), (0, u "Z"), (0, .methodref 10 28), (0, .nameAndType 5 29), (0, u "([CIILjava/lang/Void;)V"), (8, .fieldref 10 39), (0, .nameAndType 40 26), (0, u "COMPACT_STRINGS"), (1, .class_ 44), (1, u "java/lang/StringUTF16"), (0, u "compress"), (1, .methodref 42 48), (0, .nameAndType 49 50), (0, u "coderFromArrayLen"), (0, u "([BI)B"), (2, u "toBytes"), (53, .class_ 109), (1, u "java/lang/StringLatin1"), (67, .methodref 42 178), (0, .nameAndType 45 179), (0, u "([CII)[B"), (29, .methodref 10 210), (0, .nameAndType 5 211), (0, u "([BB)V"), (157, u "(C)Z"), (171, .methodref 107 542), (0, .nameAndType 543 544), (0, u "equals"), (0, u "([B[B)Z"), (28, u "(Ljava/lang/Object;)Z"), (1, .class_ 576), (0, u "java/lang/CharSequence"), (22, u "CASE_INSENSITIVE_ORDER"), (0, u "Ljava/util/Comparator;"), (181, u "valueOf"), (0, u "(C)Ljava/lang/String;"), (226, u "([C)V"), (4, .methodref 107 1016), (0, .nameAndType 1017 369), (0, u "canEncode"), (0, .methodref 107 1019), (0, .nameAndType 53 1020), (0, u "(C)[B"), (80, u "serialPersistentFields"), (0, u "[Ljava/io/ObjectStreamField;"), (0, .class_ 1104), (0, u "java/lang/String$CaseInsensitiveComparator"), (1, .class_ 1107), (0, u "java/io/Serializable"), (0, .class_ 1109), (0, u "java/lang/Comparable"), (0, .class_ 1111), (0, u "java/lang/constant/Constable"), (0, .class_ 1113), (0, u "java/lang/constant/ConstantDesc"), (2, u "serialVersionUID"), (0, u "J"), (3, u "REPL"), (0, u "C"), (2, u "LATIN1"), (1, u "UTF16")] 323

def k8m0 : Method := { name := "<init>", desc := "()V", sig := { parameters := [], returnType := none }, accessFlags := 1, code := none }
def k8c1 : Code := { maxStack := 5, maxLocals := 2, code := jdk_42_method_3_code, exceptionTable := #[], attributes := #[] }
def k8m1 : Method := { name := "<init>", desc := "([C)V", sig := { parameters := [(.array .char)], returnType := none }, accessFlags := 1, code := some k8c1 }
def k8c2 : Code := { maxStack := 2, maxLocals := 3, code := jdk_42_method_66_code, exceptionTable := #[], attributes := #[] }
def k8m2 : Method := { name := "equals", desc := "(Ljava/lang/Object;)Z", sig := { parameters := [(.object "java/lang/Object")], returnType := some .boolean }, accessFlags := 1, code := some k8c2 }
def k8c3 : Code := { maxStack := 4, maxLocals := 1, code := jdk_42_method_139_code, exceptionTable := #[], attributes := #[] }
def k8m3 : Method := { name := "valueOf", desc := "(C)Ljava/lang/String;", sig := { parameters := [.char], returnType := some (.object "java/lang/String") }, accessFlags := 9, code := some k8c3 }
def k8c4 : Code := { maxStack := 4, maxLocals := 6, code := jdk_42_method_149_code, exceptionTable := #[], attributes := #[] }
def k8m4 : Method := { name := "<init>", desc := "([CIILjava/lang/Void;)V", sig := { parameters := [(.array .char), .int, .int, (.object "java/lang/Void")], returnType := none }, accessFlags := 2, code := some k8c4 }
def k8c5 : Code := { maxStack := 2, maxLocals := 3, code := jdk_42_method_151_code, exceptionTable := #[], attributes := #[] }
def k8m5 : Method := { name := "<init>", desc := "([BB)V", sig := { parameters := [(.array .byte), .byte], returnType := none }, accessFlags := 0, code := some k8c5 }
/-- java/lang/String -/
def k8 : Class := { plain "java/lang/String" (some 0) with
  accessFlags := 49
  interfaces := #[3, 4, 5, 6, 7]
  cf := some (fileOf pool8 10 #[.nestMembers #[1103]] #[{ accessFlags := 1, nameIndex := 5, descriptorIndex := 6, attributes := #[] }, { accessFlags := 1, nameIndex := 5, descriptorIndex := 1010, attributes := #[] }, { accessFlags := 1, nameIndex := 543, descriptorIndex := 573, attributes := #[] }, { accessFlags := 9, nameIndex := 782, descriptorIndex := 783, attributes := #[] }, { accessFlags := 2, nameIndex := 5, descriptorIndex := 29, attributes := #[] }, { accessFlags := 0, nameIndex := 5, descriptorIndex := 211, attributes := #[] }] 49 2 #[1106, 1108, 575, 1110, 1112] #[{ accessFlags := 18, nameIndex := 13, descriptorIndex := 14, attributes := #[] }, { accessFlags := 18, nameIndex := 17, descriptorIndex := 18, attributes := #[] }, { accessFlags := 2, nameIndex := 21, descriptorIndex := 22, attributes := #[] }, { accessFlags := 2, nameIndex := 25, descriptorIndex := 26, attributes := #[] }, { accessFlags := 26, nameIndex := 1116, descriptorIndex := 1117, attributes := #[] }, { accessFlags := 24, nameIndex := 40, descriptorIndex := 26, attributes := #[] }, { accessFlags := 26, nameIndex := 1101, descriptorIndex := 1102, attributes := #[] }, { accessFlags := 26, nameIndex := 1121, descriptorIndex := 1122, attributes := #[] }, { accessFlags := 25, nameIndex := 599, descriptorIndex := 600, attributes := #[] }, { accessFlags := 24, nameIndex := 1125, descriptorIndex := 18, attributes := #[] }, { accessFlags := 24, nameIndex := 1127, descriptorIndex := 18, attributes := #[] }])
  fields := #[{ name := "value", type := (.array .byte), accessFlags := 18, slot := 0, constantValue := 0 }, { name := "coder", type := .byte, accessFlags := 18, slot := 1, constantValue := 0 }, { name := "hash", type := .int, accessFlags := 2, slot := 2, constantValue := 0 }, { name := "hashIsZero", type := .boolean, accessFlags := 2, slot := 3, constantValue := 0 }, { name := "serialVersionUID", type := .long, accessFlags := 26, slot := 0, constantValue := 0 }, { name := "COMPACT_STRINGS", type := .boolean, accessFlags := 24, slot := 1, constantValue := 0 }, { name := "serialPersistentFields", type := (.array (.object "java/io/ObjectStreamField")), accessFlags := 26, slot := 2, constantValue := 0 }, { name := "REPL", type := .char, accessFlags := 26, slot := 3, constantValue := 0 }, { name := "CASE_INSENSITIVE_ORDER", type := (.object "java/util/Comparator"), accessFlags := 25, slot := 4, constantValue := 0 }, { name := "LATIN1", type := .byte, accessFlags := 24, slot := 5, constantValue := 0 }, { name := "UTF16", type := .byte, accessFlags := 24, slot := 6, constantValue := 0 }]
  methods := #[k8m0, k8m1, k8m2, k8m3, k8m4, k8m5]
  instanceTypes := #[(.array .byte), .byte, .int, .boolean]
  staticTypes := #[.long, .boolean, (.array (.object "java/io/ObjectStreamField")), .char, (.object "java/util/Comparator"), .byte, .byte]
  resolved := Array.replicate 1451 none
  statics := some 0 }

def pool9 : Array CpInfo := pool [(4, .class_ 6), (1, u "java/lang/Object"), (0, u "<init>"), (0, u "()V"), (5, .class_ 16), (1, u "java/lang/StringLatin1"), (73, u "canEncode"), (14, u "(C)Z"), (15, u "$assertionsDisabled"), (0, u "Z"), (98, .class_ 223), (1, u "java/lang/StringLatin1$LinesSpliterator"), (57, u "equals"), (0, u "([B[B)Z"), (97, u "toBytes"), (1, u "(C)[B"), (7, .class_ 391), (0, u "java/lang/StringLatin1$CharsSpliterator")] 3

def k9m0 : Method := { name := "<init>", desc := "()V", sig := { parameters := [], returnType := none }, accessFlags := 0, code := none }
def k9c1 : Code := { maxStack := 2, maxLocals := 1, code := jdk_43_method_3_code, exceptionTable := #[], attributes := #[] }
def k9m1 : Method := { name := "canEncode", desc := "(C)Z", sig := { parameters := [.char], returnType := some .boolean }, accessFlags := 9, code := some k9c1 }
def k9c2 : Code := { maxStack := 3, maxLocals := 3, code := jdk_43_method_13_code, exceptionTable := #[], attributes := #[] }
def k9m2 : Method := { name := "equals", desc := "([B[B)Z", sig := { parameters := [(.array .byte), (.array .byte)], returnType := some .boolean }, accessFlags := 9, code := some k9c2 }
def k9c3 : Code := { maxStack := 4, maxLocals := 1, code := jdk_43_method_46_code, exceptionTable := #[], attributes := #[] }
def k9m3 : Method := { name := "toBytes", desc := "(C)[B", sig := { parameters := [.char], returnType := some (.array .byte) }, accessFlags := 9, code := some k9c3 }
/-- java/lang/StringLatin1 -/
def k9 : Class := { plain "java/lang/StringLatin1" (some 0) with
  accessFlags := 48
  interfaces := #[]
  cf := some (fileOf pool9 14 #[.nestMembers #[390, 221]] #[{ accessFlags := 0, nameIndex := 7, descriptorIndex := 8, attributes := #[] }, { accessFlags := 9, nameIndex := 90, descriptorIndex := 105, attributes := #[] }, { accessFlags := 9, nameIndex := 281, descriptorIndex := 282, attributes := #[] }, { accessFlags := 9, nameIndex := 380, descriptorIndex := 382, attributes := #[] }] 48 4 #[] #[{ accessFlags := 4120, nameIndex := 121, descriptorIndex := 122, attributes := #[] }])
  fields := #[{ name := "$assertionsDisabled", type := .boolean, accessFlags := 4120, slot := 0, constantValue := 0 }]
  methods := #[k9m0, k9m1, k9m2, k9m3]
  instanceTypes := #[]
  staticTypes := #[.boolean]
  resolved := Array.replicate 395 none
  statics := none }

def pool10 : Array CpInfo := pool [(6, .class_ 8), (1, u "java/lang/Object"), (0, u "<init>"), (0, u "()V"), (1, .class_ 14), (1, u "java/lang/StringUTF16"), (31, u "$assertionsDisabled"), (0, u "Z"), (13, u "HI_BYTE_SHIFT"), (0, u "I"), (2, u "LO_BYTE_SHIFT"), (49, .methodref 12 116), (0, .nameAndType 117 118), (0, u "compress"), (0, u "([CI[BII)I"), (3, u "([CII)[B"), (138, u "coderFromArrayLen"), (0, u "([BI)B"), (106, .class_ 371), (1, u "java/lang/StringUTF16$LinesSpliterator"), (58, u "MAX_LENGTH"), (196, .class_ 628), (0, u "java/lang/StringUTF16$CodePointsSpliterator"), (0, .class_ 630), (0, u "java/lang/StringUTF16$CharsSpliterator")] 4

def k10m0 : Method := { name := "<init>", desc := "()V", sig := { parameters := [], returnType := none }, accessFlags := 0, code := none }
def k10c1 : Code := { maxStack := 2, maxLocals := 2, code := jdk_52_method_15_code, exceptionTable := #[], attributes := #[] }
def k10m1 : Method := { name := "coderFromArrayLen", desc := "([BI)B", sig := { parameters := [(.array .byte), .int], returnType := some .byte }, accessFlags := 8, code := some k10c1 }
def k10c2 : Code := { maxStack := 5, maxLocals := 6, code := jdk_52_method_16_code, exceptionTable := #[], attributes := #[] }
def k10m2 : Method := { name := "compress", desc := "([CII)[B", sig := { parameters := [(.array .char), .int, .int], returnType := some (.array .byte) }, accessFlags := 9, code := some k10c2 }
def k10c3 : Code := { maxStack := 3, maxLocals := 7, code := jdk_52_method_21_code, exceptionTable := #[], attributes := #[] }
def k10m3 : Method := { name := "compress", desc := "([CI[BII)I", sig := { parameters := [(.array .char), .int, (.array .byte), .int, .int], returnType := some .int }, accessFlags := 9, code := some k10c3 }
/-- java/lang/StringUTF16 -/
def k10 : Class := { plain "java/lang/StringUTF16" (some 0) with
  accessFlags := 48
  interfaces := #[]
  cf := some (fileOf pool10 12 #[.nestMembers #[627, 629, 369]] #[{ accessFlags := 0, nameIndex := 9, descriptorIndex := 10, attributes := #[] }, { accessFlags := 8, nameIndex := 261, descriptorIndex := 262, attributes := #[] }, { accessFlags := 9, nameIndex := 117, descriptorIndex := 122, attributes := #[] }, { accessFlags := 9, nameIndex := 117, descriptorIndex := 118, attributes := #[] }] 48 6 #[] #[{ accessFlags := 26, nameIndex := 61, descriptorIndex := 62, attributes := #[] }, { accessFlags := 26, nameIndex := 65, descriptorIndex := 62, attributes := #[] }, { accessFlags := 24, nameIndex := 430, descriptorIndex := 62, attributes := #[] }, { accessFlags := 4120, nameIndex := 46, descriptorIndex := 47, attributes := #[] }])
  fields := #[{ name := "HI_BYTE_SHIFT", type := .int, accessFlags := 26, slot := 0, constantValue := 0 }, { name := "LO_BYTE_SHIFT", type := .int, accessFlags := 26, slot := 1, constantValue := 0 }, { name := "MAX_LENGTH", type := .int, accessFlags := 24, slot := 2, constantValue := 0 }, { name := "$assertionsDisabled", type := .boolean, accessFlags := 4120, slot := 3, constantValue := 0 }]
  methods := #[k10m0, k10m1, k10m2, k10m3]
  instanceTypes := #[]
  staticTypes := #[.int, .int, .int, .boolean]
  resolved := Array.replicate 635 none
  statics := none }

def pool11 : Array CpInfo := pool [(2, .class_ 4), (1, u "java/lang/Object"), (0, u "<init>"), (0, u "()V"), (17, .class_ 26), (1, u "jdk/internal/util/Preconditions"), (28, .class_ 56), (0, u "jdk/internal/util/Preconditions$4"), (57, .class_ 115), (0, u "jdk/internal/util/Preconditions$1"), (7, u "SIOOBE_FORMATTER"), (0, u "Ljava/util/function/BiFunction;"), (0, .class_ 126), (0, u "jdk/internal/util/Preconditions$2"), (3, u "AIOOBE_FORMATTER"), (0, .class_ 132), (0, u "jdk/internal/util/Preconditions$3"), (3, u "IOOBE_FORMATTER")] 57

def k11m0 : Method := { name := "<init>", desc := "()V", sig := { parameters := [], returnType := none }, accessFlags := 1, code := none }
/-- jdk/internal/util/Preconditions -/
def k11 : Class := { plain "jdk/internal/util/Preconditions" (some 0) with
  accessFlags := 33
  interfaces := #[]
  cf := some (fileOf pool11 24 #[.nestMembers #[55, 131, 125, 114]] #[{ accessFlags := 1, nameIndex := 5, descriptorIndex := 6, attributes := #[] }] 33 2 #[] #[{ accessFlags := 25, nameIndex := 123, descriptorIndex := 124, attributes := #[] }, { accessFlags := 25, nameIndex := 130, descriptorIndex := 124, attributes := #[] }, { accessFlags := 25, nameIndex := 136, descriptorIndex := 124, attributes := #[] }])
  fields := #[{ name := "SIOOBE_FORMATTER", type := (.object "java/util/function/BiFunction"), accessFlags := 25, slot := 0, constantValue := 0 }, { name := "AIOOBE_FORMATTER", type := (.object "java/util/function/BiFunction"), accessFlags := 25, slot := 1, constantValue := 0 }, { name := "IOOBE_FORMATTER", type := (.object "java/util/function/BiFunction"), accessFlags := 25, slot := 2, constantValue := 0 }]
  methods := #[k11m0]
  instanceTypes := #[]
  staticTypes := #[(.object "java/util/function/BiFunction"), (.object "java/util/function/BiFunction"), (.object "java/util/function/BiFunction")]
  resolved := Array.replicate 194 none
  statics := some 1 }

def pool12 : Array CpInfo := pool [(9, u "<init>"), (6, .class_ 18), (1, u "java/lang/Object"), (0, u "()V"), (1, .class_ 23), (1, u "jdk/internal/util/ArraysSupport"), (0, u "LOG2_ARRAY_LONG_INDEX_SCALE"), (0, u "I"), (2, u "U"), (0, u "Ljdk/internal/misc/Unsafe;"), (8, u "BIG_ENDIAN"), (0, u "Z"), (8, u "LOG2_BYTE_BIT_SIZE"), (4, u "LOG2_ARRAY_INT_INDEX_SCALE"), (54, u "JLA"), (0, u "Ljdk/internal/access/JavaLangAccess;"), (11, u "LOG2_ARRAY_BOOLEAN_INDEX_SCALE"), (9, u "LOG2_ARRAY_BYTE_INDEX_SCALE"), (5, u "LOG2_ARRAY_CHAR_INDEX_SCALE"), (5, u "LOG2_ARRAY_SHORT_INDEX_SCALE"), (18, u "LOG2_ARRAY_FLOAT_INDEX_SCALE"), (24, u "LOG2_ARRAY_DOUBLE_INDEX_SCALE"), (89, u "T_BOOLEAN"), (2, u "T_CHAR"), (1, u "T_FLOAT"), (1, u "T_DOUBLE"), (1, u "T_BYTE"), (1, u "T_SHORT"), (1, u "T_INT"), (1, u "T_LONG"), (1, u "SOFT_MAX_ARRAY_LENGTH")] 83

def k12m0 : Method := { name := "<init>", desc := "()V", sig := { parameters := [], returnType := none }, accessFlags := 2, code := none }
/-- jdk/internal/util/ArraysSupport -/
def k12 : Class := { plain "jdk/internal/util/ArraysSupport" (some 0) with
  accessFlags := 33
  interfaces := #[]
  cf := some (fileOf pool12 21 #[] #[{ accessFlags := 2, nameIndex := 9, descriptorIndex := 19, attributes := #[] }] 33 16 #[] #[{ accessFlags := 24, nameIndex := 28, descriptorIndex := 29, attributes := #[] }, { accessFlags := 26, nameIndex := 38, descriptorIndex := 39, attributes := #[] }, { accessFlags := 25, nameIndex := 121, descriptorIndex := 25, attributes := #[] }, { accessFlags := 25, nameIndex := 131, descriptorIndex := 25, attributes := #[] }, { accessFlags := 25, nameIndex := 137, descriptorIndex := 25, attributes := #[] }, { accessFlags := 25, nameIndex := 143, descriptorIndex := 25, attributes := #[] }, { accessFlags := 25, nameIndex := 53, descriptorIndex := 25, attributes := #[] }, { accessFlags := 25, nameIndex := 24, descriptorIndex := 25, attributes := #[] }, { accessFlags := 25, nameIndex := 162, descriptorIndex := 25, attributes := #[] }, { accessFlags := 25, nameIndex := 187, descriptorIndex := 25, attributes := #[] }, { accessFlags := 26, nameIndex := 48, descriptorIndex := 25, attributes := #[] }, { accessFlags := 25, nameIndex := 277, descriptorIndex := 25, attributes := #[] }, { accessFlags := 25, nameIndex := 280, descriptorIndex := 25, attributes := #[] }, { accessFlags := 25, nameIndex := 282, descriptorIndex := 25, attributes := #[] }, { accessFlags := 25, nameIndex := 284, descriptorIndex := 25, attributes := #[] }, { accessFlags := 25, nameIndex := 286, descriptorIndex := 25, attributes := #[] }, { accessFlags := 25, nameIndex := 288, descriptorIndex := 25, attributes := #[] }, { accessFlags := 25, nameIndex := 290, descriptorIndex := 25, attributes := #[] }, { accessFlags := 25, nameIndex := 292, descriptorIndex := 25, attributes := #[] }, { accessFlags := 26, nameIndex := 108, descriptorIndex := 109, attributes := #[] }, { accessFlags := 25, nameIndex := 294, descriptorIndex := 25, attributes := #[] }])
  fields := #[{ name := "U", type := (.object "jdk/internal/misc/Unsafe"), accessFlags := 24, slot := 0, constantValue := 0 }, { name := "BIG_ENDIAN", type := .boolean, accessFlags := 26, slot := 1, constantValue := 0 }, { name := "LOG2_ARRAY_BOOLEAN_INDEX_SCALE", type := .int, accessFlags := 25, slot := 2, constantValue := 0 }, { name := "LOG2_ARRAY_BYTE_INDEX_SCALE", type := .int, accessFlags := 25, slot := 3, constantValue := 0 }, { name := "LOG2_ARRAY_CHAR_INDEX_SCALE", type := .int, accessFlags := 25, slot := 4, constantValue := 0 }, { name := "LOG2_ARRAY_SHORT_INDEX_SCALE", type := .int, accessFlags := 25, slot := 5, constantValue := 0 }, { name := "LOG2_ARRAY_INT_INDEX_SCALE", type := .int, accessFlags := 25, slot := 6, constantValue := 0 }, { name := "LOG2_ARRAY_LONG_INDEX_SCALE", type := .int, accessFlags := 25, slot := 7, constantValue := 0 }, { name := "LOG2_ARRAY_FLOAT_INDEX_SCALE", type := .int, accessFlags := 25, slot := 8, constantValue := 0 }, { name := "LOG2_ARRAY_DOUBLE_INDEX_SCALE", type := .int, accessFlags := 25, slot := 9, constantValue := 0 }, { name := "LOG2_BYTE_BIT_SIZE", type := .int, accessFlags := 26, slot := 10, constantValue := 0 }, { name := "T_BOOLEAN", type := .int, accessFlags := 25, slot := 11, constantValue := 0 }, { name := "T_CHAR", type := .int, accessFlags := 25, slot := 12, constantValue := 0 }, { name := "T_FLOAT", type := .int, accessFlags := 25, slot := 13, constantValue := 0 }, { name := "T_DOUBLE", type := .int, accessFlags := 25, slot := 14, constantValue := 0 }, { name := "T_BYTE", type := .int, accessFlags := 25, slot := 15, constantValue := 0 }, { name := "T_SHORT", type := .int, accessFlags := 25, slot := 16, constantValue := 0 }, { name := "T_INT", type := .int, accessFlags := 25, slot := 17, constantValue := 0 }, { name := "T_LONG", type := .int, accessFlags := 25, slot := 18, constantValue := 0 }, { name := "JLA", type := (.object "jdk/internal/access/JavaLangAccess"), accessFlags := 26, slot := 19, constantValue := 0 }, { name := "SOFT_MAX_ARRAY_LENGTH", type := .int, accessFlags := 25, slot := 20, constantValue := 0 }]
  methods := #[k12m0]
  instanceTypes := #[]
  staticTypes := #[(.object "jdk/internal/misc/Unsafe"), .boolean, .int, .int, .int, .int, .int, .int, .int, .int, .int, .int, .int, .int, .int, .int, .int, .int, .int, (.object "jdk/internal/access/JavaLangAccess"), .int]
  resolved := Array.replicate 378 none
  statics := none }

def pool13 : Array CpInfo := pool [(1, u "java/lang/Cloneable"), (0, .class_ 1), (0, u "java/lang/Object"), (0, .class_ 3)] 3

/-- java/lang/Cloneable -/
def k13 : Class := { plain "java/lang/Cloneable" (some 0) with
  accessFlags := 1537
  interfaces := #[]
  cf := some (fileOf pool13 2 #[] #[] 1537 4 #[] #[])
  fields := #[]
  methods := #[]
  instanceTypes := #[]
  staticTypes := #[]
  resolved := Array.replicate 8 none
  statics := none }

/-- the primitive byte -/
def k14 : Class := { plain "byte" none with kind := .primitive 'B', accessFlags := 0x411 }
/-- [B -/
def k15 : Class := { plain "[B" (some 0) with kind := .array 14 .byte, interfaces := #[13, 3], accessFlags := 1041 }

/-- the primitive char -/
def k16 : Class := { plain "char" none with kind := .primitive 'C', accessFlags := 0x411 }
/-- [C -/
def k17 : Class := { plain "[C" (some 0) with kind := .array 16 .char, interfaces := #[13, 3], accessFlags := 1041 }

/-- the primitive int -/
def k18 : Class := { plain "int" none with kind := .primitive 'I', accessFlags := 0x411 }
/-- [I -/
def k19 : Class := { plain "[I" (some 0) with kind := .array 18 .int, interfaces := #[13, 3], accessFlags := 1041 }

def heap : Heap := #[{ cls := 8, slots := #[.long 0, .int 1, .null, .int 0, .null, .int 0, .int 0], vm := .statics 8 },
  { cls := 11, slots := #[.null, .null, .null], vm := .statics 11 }]
def classes : Array Class := #[k0, k1, k2, k3, k4, k5, k6, k7, k8, k9, k10, k11, k12, k13, k14, k15, k16, k17, k18, k19]
def interned : List (Array UInt16 × Addr) := []
def slotsUsed : Nat := 10
def theMethod : MethodId := ⟨1, 6⟩
def args0 : Array Value := #[.int 7, .int 11, .int 13, .int 3, .int 5]
def aboutOver (below : List Frame) : State where
  vm := { classes := classes, interned := interned.toArray }
  heap := heap
  slotsUsed := slotsUsed
  threads := #[{ frames := .invoking theMethod args0 :: below }]
def below0 : List Frame := [.native { method := ⟨0, 0⟩, args := #[] }]
def about1 : State := aboutOver below0
def p0 : Program := .bare "" "" ""
def e0 : Env := launch0.env 0 0 0
theorem w_frames : about1.frames = Frame.invoking theMethod args0 :: below0 := rfl
set_option maxRecDepth 65536 in
theorem w_args : argsFit about1.vm theMethod args0 = true := by decide +kernel
set_option maxRecDepth 65536 in
theorem w_heap : heapFits about1 = true := by decide +kernel
set_option maxRecDepth 65536 in
theorem w_runnable : about1.curStatus? = some .runnable := by decide +kernel
set_option maxRecDepth 65536 in
theorem w_alone : about1.alone = true := by decide +kernel
set_option maxRecDepth 65536 in
theorem w_named : about1.methodNamed? x = some theMethod := by decide +kernel
set_option maxRecDepth 65536 in
theorem w_hears : about1.hears theMethod below0 = true := by decide +kernel
set_option maxRecDepth 65536 in
theorem w_ripe : about1.ripe theMethod args0 below0 = true := by decide +kernel
theorem w_running : about1.status = .running := rfl
set_option maxRecDepth 65536 in
theorem w_room : about1.hasRoom e0.platform room_1 = true :=
  launch0.hasRoom_least _ room_1 (by decide +kernel) (by decide +kernel) (by decide +kernel) (by decide +kernel) (by decide +kernel) (by decide +kernel)
theorem allAtoms_all (ts : List Jvm.Cond) (a : Array Jvm.Value) (st : Jvm.State) : (allAtoms ts).before a st = ts.all (fun c => c.before a st) := by
  induction ts with
  | nil => rfl
  | cons c t ih =>
    show (Jvm.Cond.and c (allAtoms t)).before a st = _
    rw [Jvm.Cond.before_and, ih, List.all_cons]
def words1 : List Jvm.Cond := Jvm.Cond.code x code maxLocals ret :: tables_1
/-- a 'code' word, met by the world's own term for the bytes: nothing is compared byte by byte -/
theorem code_word {y : MethodName} {bytes : ByteArray} {mx : Nat} {rt : Option FieldType} {a : Array Value} {s : State} {m : MethodId} {meth : Method} {c : Code} (h1 : s.methodNamed? y = some m) (h2 : s.vm.method? m = some meth) (h3 : meth.code = some c) (h4 : c.code = bytes)
    (h5 : (c.maxLocals == mx && c.exceptionTable.isEmpty && decide (c.maxStack ≤ mostOperands) && decide (meth.sig.returnType = rt) && !meth.locks && decide (parseMethodDescriptor y.desc = some meth.sig)) = true) : (Jvm.Cond.code y bytes mx rt).before a s = true := by
  simp only [Bool.and_eq_true, beq_iff_eq, Bool.not_eq_true', decide_eq_true_eq] at h5
  obtain ⟨⟨⟨⟨⟨g1, g2⟩, g3⟩, g4⟩, g5⟩, g6⟩ := h5
  simp [Cond.before, Cond.holds, Cond.value, h1, h2, h3, h4, g1, g2, g3, g4, g5, g6]
def isCode : Jvm.Cond → Bool
  | .code _ _ _ _ => true
  | _ => false
theorem all_split {L : List Jvm.Cond} {P : Jvm.Cond → Bool} (h1 : L.all (fun c => isCode c || P c) = true) (h2 : ∀ c ∈ L.filter isCode, P c = true) : L.all P = true := by
  refine List.all_eq_true.mpr fun c hc => ?_
  have h := List.all_eq_true.mp h1 c hc
  rcases Bool.eq_false_or_eq_true (isCode c) with hi | hi
  · exact h2 c (List.mem_filter.mpr ⟨hc, hi⟩)
  · simpa [hi] using h
set_option maxRecDepth 65536 in
theorem w_c0 : (Jvm.Cond.code x code maxLocals ret).before args0 about1 = true := code_word (m := ⟨1, 6⟩) (meth := k1m6) (c := k1c6) (by decide +kernel) rfl rfl rfl (by decide +kernel)
set_option maxRecDepth 65536 in
theorem w_c1 : (Jvm.Cond.code ({ cls := "com/example/hecate/hecate/HolderEqualsPinLaw", name := "mk", desc := "(I)Ljava/lang/String;" } : Jvm.MethodName) method_5_code (3 : Nat) (Option.some (Jvm.ClassFile.FieldType.object "java/lang/String"))).before args0 about1 = true := code_word (m := ⟨1, 4⟩) (meth := k1m4) (c := k1c4) (by decide +kernel) rfl rfl rfl (by decide +kernel)
set_option maxRecDepth 65536 in
theorem w_c2 : (Jvm.Cond.code ({ cls := "com/example/hecate/hecate/HolderEqualsPinLaw", name := "len", desc := "(I)I" } : Jvm.MethodName) method_2_code (1 : Nat) (Option.some Jvm.ClassFile.FieldType.int)).before args0 about1 = true := code_word (m := ⟨1, 1⟩) (meth := k1m1) (c := k1c1) (by decide +kernel) rfl rfl rfl (by decide +kernel)
set_option maxRecDepth 65536 in
theorem w_c3 : (Jvm.Cond.code ({ cls := "java/lang/String", name := "<init>", desc := "([C)V" } : Jvm.MethodName) jdk_42_method_3_code (2 : Nat) (Option.none : Option Jvm.ClassFile.FieldType)).before args0 about1 = true := code_word (m := ⟨8, 1⟩) (meth := k8m1) (c := k8c1) (by decide +kernel) rfl rfl rfl (by decide +kernel)
set_option maxRecDepth 65536 in
theorem w_c4 : (Jvm.Cond.code ({ cls := "java/lang/String", name := "<init>", desc := "([CIILjava/lang/Void;)V" } : Jvm.MethodName) jdk_42_method_149_code (6 : Nat) (Option.none : Option Jvm.ClassFile.FieldType)).before args0 about1 = true := code_word (m := ⟨8, 4⟩) (meth := k8m4) (c := k8c4) (by decide +kernel) rfl rfl rfl (by decide +kernel)
set_option maxRecDepth 65536 in
theorem w_c5 : (Jvm.Cond.code ({ cls := "java/lang/Object", name := "<init>", desc := "()V" } : Jvm.MethodName) object_method_1_code (1 : Nat) (Option.none : Option Jvm.ClassFile.FieldType)).before args0 about1 = true := code_word (m := ⟨0, 0⟩) (meth := k0m0) (c := k0c0) (by decide +kernel) rfl rfl rfl (by decide +kernel)
set_option maxRecDepth 65536 in
theorem w_c6 : (Jvm.Cond.code ({ cls := "com/example/hecate/hecate/Holder", name := "<init>", desc := "(Ljava/lang/String;Ljava/lang/String;)V" } : Jvm.MethodName) prog_2_method_1_code (3 : Nat) (Option.none : Option Jvm.ClassFile.FieldType)).before args0 about1 = true := code_word (m := ⟨2, 0⟩) (meth := k2m0) (c := k2c0) (by decide +kernel) rfl rfl rfl (by decide +kernel)
set_option maxRecDepth 65536 in
theorem w_c7 : (Jvm.Cond.code ({ cls := "com/example/hecate/hecate/HolderEqualsPinLaw", name := "same", desc := "(II)Z" } : Jvm.MethodName) method_6_code (3 : Nat) (Option.some Jvm.ClassFile.FieldType.boolean)).before args0 about1 = true := code_word (m := ⟨1, 5⟩) (meth := k1m5) (c := k1c5) (by decide +kernel) rfl rfl rfl (by decide +kernel)
set_option maxRecDepth 65536 in
theorem w_c8 : (Jvm.Cond.code ({ cls := "com/example/hecate/hecate/Holder", name := "equals", desc := "(Ljava/lang/Object;)Z" } : Jvm.MethodName) prog_2_method_4_code (3 : Nat) (Option.some Jvm.ClassFile.FieldType.boolean)).before args0 about1 = true := code_word (m := ⟨2, 1⟩) (meth := k2m1) (c := k2c1) (by decide +kernel) rfl rfl rfl (by decide +kernel)
set_option maxRecDepth 65536 in
theorem w_c9 : (Jvm.Cond.code ({ cls := "java/lang/String", name := "equals", desc := "(Ljava/lang/Object;)Z" } : Jvm.MethodName) jdk_42_method_66_code (3 : Nat) (Option.some Jvm.ClassFile.FieldType.boolean)).before args0 about1 = true := code_word (m := ⟨8, 2⟩) (meth := k8m2) (c := k8c2) (by decide +kernel) rfl rfl rfl (by decide +kernel)
set_option maxRecDepth 65536 in
theorem w_c10 : (Jvm.Cond.code ({ cls := "java/lang/StringLatin1", name := "equals", desc := "([B[B)Z" } : Jvm.MethodName) jdk_43_method_13_code (3 : Nat) (Option.some Jvm.ClassFile.FieldType.boolean)).before args0 about1 = true := code_word (m := ⟨9, 2⟩) (meth := k9m2) (c := k9c2) (by decide +kernel) rfl rfl rfl (by decide +kernel)
set_option maxRecDepth 65536 in
theorem w_c11 : (Jvm.Cond.code ({ cls := "com/example/hecate/hecate/HolderEqualsPinLaw", name := "ch0", desc := "(I)C" } : Jvm.MethodName) method_3_code (1 : Nat) (Option.some Jvm.ClassFile.FieldType.char)).before args0 about1 = true := code_word (m := ⟨1, 2⟩) (meth := k1m2) (c := k1c2) (by decide +kernel) rfl rfl rfl (by decide +kernel)
set_option maxRecDepth 65536 in
theorem w_c12 : (Jvm.Cond.code ({ cls := "java/lang/String", name := "valueOf", desc := "(C)Ljava/lang/String;" } : Jvm.MethodName) jdk_42_method_139_code (1 : Nat) (Option.some (Jvm.ClassFile.FieldType.object "java/lang/String"))).before args0 about1 = true := code_word (m := ⟨8, 3⟩) (meth := k8m3) (c := k8c3) (by decide +kernel) rfl rfl rfl (by decide +kernel)
set_option maxRecDepth 65536 in
theorem w_c13 : (Jvm.Cond.code ({ cls := "java/lang/StringLatin1", name := "canEncode", desc := "(C)Z" } : Jvm.MethodName) jdk_43_method_3_code (1 : Nat) (Option.some Jvm.ClassFile.FieldType.boolean)).before args0 about1 = true := code_word (m := ⟨9, 1⟩) (meth := k9m1) (c := k9c1) (by decide +kernel) rfl rfl rfl (by decide +kernel)
set_option maxRecDepth 65536 in
theorem w_c14 : (Jvm.Cond.code ({ cls := "java/lang/StringLatin1", name := "toBytes", desc := "(C)[B" } : Jvm.MethodName) jdk_43_method_46_code (1 : Nat) (Option.some (Jvm.ClassFile.FieldType.array Jvm.ClassFile.FieldType.byte))).before args0 about1 = true := code_word (m := ⟨9, 3⟩) (meth := k9m3) (c := k9c3) (by decide +kernel) rfl rfl rfl (by decide +kernel)
set_option maxRecDepth 65536 in
theorem w_c15 : (Jvm.Cond.code ({ cls := "java/lang/String", name := "<init>", desc := "([BB)V" } : Jvm.MethodName) jdk_42_method_151_code (3 : Nat) (Option.none : Option Jvm.ClassFile.FieldType)).before args0 about1 = true := code_word (m := ⟨8, 5⟩) (meth := k8m5) (c := k8c5) (by decide +kernel) rfl rfl rfl (by decide +kernel)
set_option maxRecDepth 65536 in
theorem w_c16 : (Jvm.Cond.code ({ cls := "com/example/hecate/hecate/HolderEqualsPinLaw", name := "ch1", desc := "(I)C" } : Jvm.MethodName) method_4_code (1 : Nat) (Option.some Jvm.ClassFile.FieldType.char)).before args0 about1 = true := code_word (m := ⟨1, 3⟩) (meth := k1m3) (c := k1c3) (by decide +kernel) rfl rfl rfl (by decide +kernel)
set_option maxRecDepth 65536 in
theorem w_c17 : (Jvm.Cond.code ({ cls := "java/lang/StringUTF16", name := "compress", desc := "([CII)[B" } : Jvm.MethodName) jdk_52_method_16_code (6 : Nat) (Option.some (Jvm.ClassFile.FieldType.array Jvm.ClassFile.FieldType.byte))).before args0 about1 = true := code_word (m := ⟨10, 2⟩) (meth := k10m2) (c := k10c2) (by decide +kernel) rfl rfl rfl (by decide +kernel)
set_option maxRecDepth 65536 in
theorem w_c18 : (Jvm.Cond.code ({ cls := "java/lang/StringUTF16", name := "compress", desc := "([CI[BII)I" } : Jvm.MethodName) jdk_52_method_21_code (7 : Nat) (Option.some Jvm.ClassFile.FieldType.int)).before args0 about1 = true := code_word (m := ⟨10, 3⟩) (meth := k10m3) (c := k10c3) (by decide +kernel) rfl rfl rfl (by decide +kernel)
set_option maxRecDepth 65536 in
theorem w_c19 : (Jvm.Cond.code ({ cls := "java/lang/StringUTF16", name := "coderFromArrayLen", desc := "([BI)B" } : Jvm.MethodName) jdk_52_method_15_code (2 : Nat) (Option.some Jvm.ClassFile.FieldType.byte)).before args0 about1 = true := code_word (m := ⟨10, 1⟩) (meth := k10m1) (c := k10c1) (by decide +kernel) rfl rfl rfl (by decide +kernel)
def codes1 : List Jvm.Cond := [Jvm.Cond.code x code maxLocals ret, Jvm.Cond.code ({ cls := "com/example/hecate/hecate/HolderEqualsPinLaw", name := "mk", desc := "(I)Ljava/lang/String;" } : Jvm.MethodName) method_5_code (3 : Nat) (Option.some (Jvm.ClassFile.FieldType.object "java/lang/String")), Jvm.Cond.code ({ cls := "com/example/hecate/hecate/HolderEqualsPinLaw", name := "len", desc := "(I)I" } : Jvm.MethodName) method_2_code (1 : Nat) (Option.some Jvm.ClassFile.FieldType.int), Jvm.Cond.code ({ cls := "java/lang/String", name := "<init>", desc := "([C)V" } : Jvm.MethodName) jdk_42_method_3_code (2 : Nat) (Option.none : Option Jvm.ClassFile.FieldType), Jvm.Cond.code ({ cls := "java/lang/String", name := "<init>", desc := "([CIILjava/lang/Void;)V" } : Jvm.MethodName) jdk_42_method_149_code (6 : Nat) (Option.none : Option Jvm.ClassFile.FieldType), Jvm.Cond.code ({ cls := "java/lang/Object", name := "<init>", desc := "()V" } : Jvm.MethodName) object_method_1_code (1 : Nat) (Option.none : Option Jvm.ClassFile.FieldType), Jvm.Cond.code ({ cls := "com/example/hecate/hecate/Holder", name := "<init>", desc := "(Ljava/lang/String;Ljava/lang/String;)V" } : Jvm.MethodName) prog_2_method_1_code (3 : Nat) (Option.none : Option Jvm.ClassFile.FieldType), Jvm.Cond.code ({ cls := "com/example/hecate/hecate/HolderEqualsPinLaw", name := "same", desc := "(II)Z" } : Jvm.MethodName) method_6_code (3 : Nat) (Option.some Jvm.ClassFile.FieldType.boolean), Jvm.Cond.code ({ cls := "com/example/hecate/hecate/Holder", name := "equals", desc := "(Ljava/lang/Object;)Z" } : Jvm.MethodName) prog_2_method_4_code (3 : Nat) (Option.some Jvm.ClassFile.FieldType.boolean), Jvm.Cond.code ({ cls := "java/lang/String", name := "equals", desc := "(Ljava/lang/Object;)Z" } : Jvm.MethodName) jdk_42_method_66_code (3 : Nat) (Option.some Jvm.ClassFile.FieldType.boolean), Jvm.Cond.code ({ cls := "java/lang/StringLatin1", name := "equals", desc := "([B[B)Z" } : Jvm.MethodName) jdk_43_method_13_code (3 : Nat) (Option.some Jvm.ClassFile.FieldType.boolean), Jvm.Cond.code ({ cls := "com/example/hecate/hecate/HolderEqualsPinLaw", name := "ch0", desc := "(I)C" } : Jvm.MethodName) method_3_code (1 : Nat) (Option.some Jvm.ClassFile.FieldType.char), Jvm.Cond.code ({ cls := "java/lang/String", name := "valueOf", desc := "(C)Ljava/lang/String;" } : Jvm.MethodName) jdk_42_method_139_code (1 : Nat) (Option.some (Jvm.ClassFile.FieldType.object "java/lang/String")), Jvm.Cond.code ({ cls := "java/lang/StringLatin1", name := "canEncode", desc := "(C)Z" } : Jvm.MethodName) jdk_43_method_3_code (1 : Nat) (Option.some Jvm.ClassFile.FieldType.boolean), Jvm.Cond.code ({ cls := "java/lang/StringLatin1", name := "toBytes", desc := "(C)[B" } : Jvm.MethodName) jdk_43_method_46_code (1 : Nat) (Option.some (Jvm.ClassFile.FieldType.array Jvm.ClassFile.FieldType.byte)), Jvm.Cond.code ({ cls := "java/lang/String", name := "<init>", desc := "([BB)V" } : Jvm.MethodName) jdk_42_method_151_code (3 : Nat) (Option.none : Option Jvm.ClassFile.FieldType), Jvm.Cond.code ({ cls := "com/example/hecate/hecate/HolderEqualsPinLaw", name := "ch1", desc := "(I)C" } : Jvm.MethodName) method_4_code (1 : Nat) (Option.some Jvm.ClassFile.FieldType.char), Jvm.Cond.code ({ cls := "java/lang/StringUTF16", name := "compress", desc := "([CII)[B" } : Jvm.MethodName) jdk_52_method_16_code (6 : Nat) (Option.some (Jvm.ClassFile.FieldType.array Jvm.ClassFile.FieldType.byte)), Jvm.Cond.code ({ cls := "java/lang/StringUTF16", name := "compress", desc := "([CI[BII)I" } : Jvm.MethodName) jdk_52_method_21_code (7 : Nat) (Option.some Jvm.ClassFile.FieldType.int), Jvm.Cond.code ({ cls := "java/lang/StringUTF16", name := "coderFromArrayLen", desc := "([BI)B" } : Jvm.MethodName) jdk_52_method_15_code (2 : Nat) (Option.some Jvm.ClassFile.FieldType.byte)]
set_option maxRecDepth 65536 in
theorem codes_eq : words1.filter isCode = codes1 := rfl
theorem w_codes : ∀ c ∈ words1.filter isCode, c.before args0 about1 = true := by
  rw [codes_eq]
  intro c hc
  simp only [codes1, List.mem_cons, List.not_mem_nil, or_false] at hc
  rcases hc with rfl | rfl | rfl | rfl | rfl | rfl | rfl | rfl | rfl | rfl | rfl | rfl | rfl | rfl | rfl | rfl | rfl | rfl | rfl | rfl
  · exact w_c0
  · exact w_c1
  · exact w_c2
  · exact w_c3
  · exact w_c4
  · exact w_c5
  · exact w_c6
  · exact w_c7
  · exact w_c8
  · exact w_c9
  · exact w_c10
  · exact w_c11
  · exact w_c12
  · exact w_c13
  · exact w_c14
  · exact w_c15
  · exact w_c16
  · exact w_c17
  · exact w_c18
  · exact w_c19
set_option maxRecDepth 65536 in
theorem w_t1 : (words1.take 24).all (fun c => isCode c || c.before args0 about1) = true := by decide +kernel
set_option maxRecDepth 65536 in
theorem w_t2 : ((words1.drop 24).take 24).all (fun c => isCode c || c.before args0 about1) = true := by decide +kernel
set_option maxRecDepth 65536 in
theorem w_t3 : (((words1.drop 24).drop 24).take 24).all (fun c => isCode c || c.before args0 about1) = true := by decide +kernel
set_option maxRecDepth 65536 in
theorem w_t4 : (((words1.drop 24).drop 24).drop 24).all (fun c => isCode c || c.before args0 about1) = true := by decide +kernel
theorem w_tables : (allAtoms (Jvm.Cond.code x code maxLocals ret :: tables_1)).before args0 about1 = true := by
  rw [allAtoms_all]
  show words1.all (fun c => c.before args0 about1) = true
  refine all_split ?_ w_codes
  rw [← List.take_append_drop 24 words1, List.all_append, w_t1, ← List.take_append_drop 24 (words1.drop 24), List.all_append, w_t2, ← List.take_append_drop 24 ((words1.drop 24).drop 24), List.all_append, w_t3, w_t4]
  rfl
set_option maxRecDepth 65536 in
theorem w_rest : rest_1_c.before args0 about1 = true := by decide +kernel
set_option maxRecDepth 65536 in
theorem w_case : (Jvm.Cond.and given_1 narrow_1).before args0 about1 = true := by decide +kernel
set_option maxRecDepth 65536 in
theorem w_consts : constsHeld consts_1 about1 := Jvm.Lit.constsHeldB_iff.mp (by decide +kernel)
theorem w_applies : (headSpec (Jvm.Cond.code x code maxLocals ret :: tables_1) room_1).applies x e0.platform about1 = true :=
  (Spec.applies_iff w_frames).mpr ⟨w_running, w_runnable, w_alone, w_named, w_hears, w_ripe, w_room, w_tables⟩
theorem atStart : AtStart classFile x code maxLocals ret World_1 tables_1 room_1 Calls_1 rest_1 Pre_1 launch0 p0 e0 about1 theMethod args0 below0 :=
  ⟨lists_1, trivial, launch0.admits_env _ _ _, launch0.least_env, fairChoices_fair.cas, fairChoices_fair.clock, w_frames, w_args, w_heap, w_applies, ⟨w_consts, trivial⟩, w_rest, w_case⟩
end start1
theorem witness_1 : WitnessClaimed_1 := ⟨start1.p0, start1.e0, start1.about1, start1.theMethod, start1.args0, start1.below0, start1.atStart⟩
end Jvm.Pilot.@@N@@
