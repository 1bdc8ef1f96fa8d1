import JvmDerived
import JvmDerived.Pilot.@@N@@Statement
import JvmDerived.Pilot.@@N@@Code
set_option linter.unusedVariables false
set_option linter.unusedSimpArgs false
namespace Jvm.OwnKit
open Sem ClassFile Op Lib Jvm.Stand Jvm.Free Jvm.LawKit Jvm.RoadKit
/-! a run that goes on to its end -/
def Run (tb : Tables) (e : Env) (below : List Frame) (F : Outcome → State → Prop) (st : State) : Prop :=
  ∃ u o, Steps tb e below st u ∧ u.status = .running ∧ Ended u below o ∧ F o u
theorem Run.st {tb : Tables} {e : Env} {below : List Frame} {F : Outcome → State → Prop} {st : State} (st' : State) (k : ∀ t, Steps tb e below st' t → Steps tb e below st t) (h : Run tb e below F st') : Run tb e below F st := by
  obtain ⟨u, o, a, b⟩ := h
  exact ⟨u, o, k _ a, b⟩
/-! small facts -/
abbrev vI (x : Int32) : Slot := .val (.int x)
abbrev vA (a : Addr) : Slot := .val (.ref a)
theorem extR (h : Heap) : Ext h h := ⟨Nat.le_refl _, fun _ _ q => q⟩
theorem extT {h h1 h2 : Heap} (E : Ext h h1) (F : Ext h1 h2) : Ext h h2 := ⟨Nat.le_trans E.1 F.1, fun a c q => F.2 a c (E.2 a c q)⟩
theorem extK {h h1 h2 : Heap} {ws : List Addr} (E : Ext h h1) (K : Keep h1 h2 ws) (q : ∀ x ∈ ws, h.size ≤ x) : Ext h h2 := ⟨Nat.le_trans E.1 K.1, fun a c ha => K.2.1 a c (E.2 a c ha) fun hm => Nat.lt_irrefl _ (Nat.lt_of_lt_of_le (Array.getElem?_eq_some_iff.mp ha).1 (q a hm))⟩
theorem keepE {h h1 : Heap} (K : Keep h h1 []) : Ext h h1 := extK (extR h) K all0
theorem cat_r (a : Addr) : (Value.ref a).category = 1 := rfl
theorem cat_i (z : Int32) : (Value.int z).category = 1 := rfl
theorem cat_l (z : Int64) : (Value.long z).category = 2 := rfl
theorem cat_n : Value.null.category = 1 := rfl
theorem catR {v : Value} (h : v.isRef = true) : v.category = 1 := by cases v <;> simp [Value.isRef] at h <;> rfl
theorem narR {v : Value} {t : FieldType} (h : v.isRef = true) (ht : t.isReference = true) : narrow t v = v := by cases v <;> simp [Value.isRef] at h <;> cases t <;> first | rfl | cases ht
theorem fitR {v : Value} {t : FieldType} (h : v.isRef = true) (ht : t.isReference = true) : fits t v = true := by cases v <;> simp [Value.isRef] at h <;> cases t <;> first | rfl | cases ht
theorem narZ {z : Int32} (h : z = 0 ∨ z = 1) : narrow .boolean (.int z) = .int z := by rcases h with rfl | rfl <;> rfl
theorem fitZ {z : Int32} (h : z = 0 ∨ z = 1) : fits .boolean (.int z) = true := by rcases h with rfl | rfl <;> rfl
theorem b01k {P : Prop} {z : Int32} (h : P ∧ z = 1 ∨ ¬ P ∧ z = 0) : z = 0 ∨ z = 1 := h.elim (fun q => Or.inr q.2) (fun q => Or.inl q.2)
def bI (P : Prop) [Decidable P] : Int32 := if P then 1 else 0
theorem bIt {P : Prop} [Decidable P] (h : P) : bI P = 1 := if_pos h
theorem bI0 {P : Prop} [Decidable P] (h : ¬ P) : bI P = 0 := if_neg h
theorem bI1 {P : Prop} [Decidable P] (h : P) : ¬ bI P = 0 := by rw [bIt h]; decide
theorem bIc {P Q : Prop} [Decidable P] [Decidable Q] (h : P ↔ Q) : bI P = bI Q := by
  by_cases p : P
  · rw [bIt p, bIt (h.mp p)]
  · rw [bI0 p, bI0 fun q => p (h.mpr q)]
theorem b01b {P : Prop} [Decidable P] : bI P = 0 ∨ bI P = 1 := by
  by_cases p : P
  · exact Or.inr (bIt p)
  · exact Or.inl (bI0 p)
theorem cmpL_self (x : Int64) : XT.cmpL x x = 0 := by simp [XT.cmpL]
theorem i32e {a b : Int32} (h : a.toInt = b.toInt) : a = b := Int32.toInt_inj.mp h
theorem fitsNB (x : Int32) : fits .byte (.int (nar .byte x)) = true := by
  have h := c_i2b x; have e1 : (-128 : Int32).toInt = -128 := rfl; have e2 : (127 : Int32).toInt = 127 := rfl
  simp only [fits, nar, Bool.and_eq_true, decide_eq_true_eq, Int32.le_iff_toInt_le, e1, e2]; omega
theorem c8i (x : Int32) : (x &&& (255 : Int32)).toUInt32.toUInt16.toUInt32.toInt32 = x &&& (255 : Int32) := by
  have q := c_and x 255 (by decide); have r := c_i2c (x &&& 255); have e : (255 : Int32).toInt = 255 := rfl
  exact i32e (by omega)
theorem narC {x : Int32} (h : ¬ x < 0 ∧ ¬ (255 : Int32) < x) : nar .char x = x := by
  have r := c_i2c x; have e : (255 : Int32).toInt = 255 := rfl; have e0 : (0 : Int32).toInt = 0 := rfl
  obtain ⟨h1, h2⟩ := h; rw [Int32.lt_iff_toInt_lt] at h1 h2
  exact i32e (by show x.toUInt32.toUInt16.toUInt32.toInt32.toInt = x.toInt; omega)
theorem c8r (x : Int32) : ¬ (x &&& (255 : Int32)) < 0 ∧ ¬ (255 : Int32) < (x &&& (255 : Int32)) := by
  have q := c_and x 255 (by decide); have e : (255 : Int32).toInt = 255 := rfl; have e0 : (0 : Int32).toInt = 0 := rfl
  rw [Int32.lt_iff_toInt_lt, Int32.lt_iff_toInt_lt]; omega
theorem c8n (x : Int32) : nar .char ((x &&& (255 : Int32)).toUInt32.toUInt16.toUInt32.toInt32) = x &&& (255 : Int32) := by rw [c8i]; exact narC (c8r x)
theorem c8lr (x : Int64) : ¬ (x &&& (255 : Int64)).toInt32 < 0 ∧ ¬ (255 : Int32) < (x &&& (255 : Int64)).toInt32 := by
  have q := c_maskL x 255 8 (by decide) (by decide); have r := c_l2i (x &&& 255); have b := rng32 (x &&& 255).toInt32; have e : (255 : Int32).toInt = 255 := rfl; have e0 : (0 : Int32).toInt = 0 := rfl
  rw [Int32.lt_iff_toInt_lt, Int32.lt_iff_toInt_lt]; omega
theorem c8ln (x : Int64) : nar .char ((x &&& (255 : Int64)).toInt32.toUInt32.toUInt16.toUInt32.toInt32) = (x &&& (255 : Int64)).toInt32 := by
  have h := narC (c8lr x)
  have e : (x &&& (255 : Int64)).toInt32.toUInt32.toUInt16.toUInt32.toInt32 = (x &&& (255 : Int64)).toInt32 := h
  rw [e]; exact h
theorem chs0 {P : Int32 → Prop} : ∀ c ∈ ([] : List Int32), P c := fun _ h => nomatch h
theorem chsS {P : Int32 → Prop} {y : Int32} {L : List Int32} (q : P y) (r : ∀ x ∈ L, P x) : ∀ x ∈ y :: L, P x := fun x hx => (List.mem_cons.mp hx).elim (fun e => e ▸ q) (r x)
theorem chUp {cs : List Int32} (h : ∀ c ∈ cs, ¬ c < 0 ∧ ¬ (255 : Int32) < c) : ∀ c ∈ cs, ¬ c < 0 ∧ ¬ (65535 : Int32) < c := fun c hc => ⟨(h c hc).1, fun q => (h c hc).2 (by rw [Int32.lt_iff_toInt_lt] at q ⊢; have e1 : (65535 : Int32).toInt = 65535 := rfl; have e2 : (255 : Int32).toInt = 255 := rfl; omega)⟩
theorem stoR {l : Array Slot} {i : Nat} {v : Value} {l' : Array Slot} {o : Slot} (hold : l[i]? = some o) (ho : o = .unset ∨ ∃ w, o = .val w ∧ w.category = 1) (hv : v.isRef = true) (e : l.setIfInBounds i (.val v) = l') : storeLocals l i v = some l' := by rw [XS.store1 hold ho (catR hv), e]
theorem shr0 (x : Int32) : x >>> ((0 : Int32) &&& 31) = x := i32e (by rw [c_ishr x 0 0 rfl]; simp)
theorem shl0 (x : Int32) : x <<< ((0 : Int32) &&& 31) = x := by
  have h := c_ishl x 0 0 rfl; have a := rng32 x; have b := rng32 (x <<< ((0 : Int32) &&& 31))
  rw [show (((2 ^ 0 : Nat) : Int)) = 1 from rfl, Int.mul_one] at h
  exact i32e (by omega)
theorem n_int {a : Nat} (h : a < 2147483648) : (Int32.ofNat a).toInt = a := len_toInt (n := a) (by omega)
theorem n_add (a b : Nat) : Int32.ofNat a + Int32.ofNat b = Int32.ofNat (a + b) := (Int32.ofNat_add a b).symm
theorem n_sub {a b : Nat} (h : b ≤ a) : Int32.ofNat a - Int32.ofNat b = Int32.ofNat (a - b) := by
  have e := n_add (a - b) b
  rw [Nat.sub_add_cancel h] at e
  rw [← e, Int32.add_sub_cancel]
theorem n_lt {a b : Nat} (ha : a < 2147483648) (hb : b < 2147483648) : Int32.ofNat a < Int32.ofNat b ↔ a < b := by rw [Int32.lt_iff_toInt_lt, n_int ha, n_int hb]; omega
theorem n_pos {a : Nat} (ha : a < 2147483648) : ¬ Int32.ofNat a < 0 := by rw [Int32.lt_iff_toInt_lt, n_int ha]; have e0 : (0 : Int32).toInt = 0 := rfl; omega
theorem n_clamp {a : Nat} (ha : a < 2147483648) : (Int32.ofNat a).toNatClampNeg = a := by simp only [Int32.toNatClampNeg, n_int ha]; rfl
theorem n_eq {a b : Nat} (ha : a < 2147483648) (hb : b < 2147483648) (h : Int32.ofNat a = Int32.ofNat b) : a = b := by have := congrArg Int32.toInt h; rw [n_int ha, n_int hb] at this; omega
theorem n_suble {a b : Nat} (h : a ≤ b) (hb : b < 2147483648) : ¬ (0 : Int32) < Int32.ofNat a - Int32.ofNat b := by
  have q := c_isub (Int32.ofNat a) (Int32.ofNat b); have r := rng32 (Int32.ofNat a - Int32.ofNat b)
  rw [n_int (by omega), n_int hb] at q
  rw [Int32.lt_iff_toInt_lt]; have e0 : (0 : Int32).toInt = 0 := rfl; omega
theorem n_subgt {a b : Nat} (h : b < a) (ha : a < 2147483648) : (0 : Int32) < Int32.ofNat a - Int32.ofNat b := by
  have q := c_isub (Int32.ofNat a) (Int32.ofNat b); have r := rng32 (Int32.ofNat a - Int32.ofNat b)
  rw [n_int ha, n_int (by omega)] at q
  rw [Int32.lt_iff_toInt_lt]; have e0 : (0 : Int32).toInt = 0 := rfl; omega
theorem nsI {Z : State} {a0 : Array Value} {C S K : String} {q : Nat} (w : (Cond.superclass C S).before a0 Z = true) (wo : (Cond.noSuperclass S).before a0 Z = true) (wk : (Cond.instantiable K q).before a0 Z = true) (h1 : C ≠ K) (h2 : S ≠ K) : ∃ c t, Z.vm.findClass C = some c ∧ Z.vm.findClass K = some t ∧ Z.vm.assignable c t = false := by
  obtain ⟨o, ko, o1, o2, o3, -, -⟩ := Cond.noSuperclass_spec wo
  obtain ⟨t, kt, t1, t2, t3, t4, -⟩ := Cond.instantiable_spec wk
  obtain ⟨c, c0⟩ := found_sup w
  obtain ⟨p, k, kp, p1, p2, p3, p4, p5, -, p7⟩ := Cond.superclass_spec c0 w
  cases o1.symm.trans p1
  have ne := ids_ne c0 t1 h1
  have ne2 := ids_ne o1 t1 h2
  have sub0 : ∀ fuel, Z.vm.isSubclassAux fuel o t = false := fun fuel => by
    cases fuel with
    | zero => rfl
    | succ f => simp [Vm.isSubclassAux, ne2, o2, o3]
  have sub : ∀ fuel, Z.vm.isSubclassAux fuel c t = false := fun fuel => by
    cases fuel with
    | zero => rfl
    | succ f => simp [Vm.isSubclassAux, ne, p2, p4, sub0]
  simp only [Bool.or_eq_false_iff] at t4
  refine ⟨c, t, c0, t1, ?_⟩
  show Z.vm.assignableAux (255 + 1) c t = false
  simp [Vm.assignableAux, ne, p2, t2, p5, t3, t4.1, Vm.isSubclass, sub]
theorem nfSel {Z : State} {a0 : Array Value} {y : MethodName} {C : String} (w : (Cond.selects C y y).before a0 Z = true) (s' : State) (hZ : Z.Warmed39 s'.vm) : NotFace s' y := notFace_of_selects (args := #[]) (mvT (s := s') hZ w)
theorem nfSelC {Z : State} {a0 : Array Value} {y y' z' : MethodName} {C : String} (w : (Cond.selects C y' z').before a0 Z = true) (e : z'.cls = y.cls) (s' : State) (hZ : Z.Warmed39 s'.vm) : NotFace s' y := fun r0 h0 => by
  obtain ⟨c2, r2, m2, q1, q2, q3, q4, kP, hkP, hkPi⟩ := Cond.selects_spec (mvT (s := s') (args := #[]) hZ w)
  have d1 := findClass_of_methodNamed h0
  have d2 := findClass_of_methodNamed q3
  rw [e] at d2
  have e2 := Option.some.inj (d1.symm.trans d2)
  exact ⟨kP, by rw [e2]; exact hkP, hkPi⟩
theorem nfSup {Z : State} {a0 : Array Value} {y : MethodName} {S : String} (w : (Cond.superclass y.cls S).before a0 Z = true) (s' : State) (hZ : Z.Warmed39 s'.vm) : NotFace s' y := nf_super (args := #[]) (mvT (s := s') hZ w)
theorem nfTop {Z : State} {a0 : Array Value} {y : MethodName} (w : (Cond.noSuperclass y.cls).before a0 Z = true) (s' : State) (hZ : Z.Warmed39 s'.vm) : NotFace s' y := nf_top (args := #[]) (mvT (s := s') hZ w)
theorem sameOf {Z : State} {a0 : Array Value} {y : MethodName} (wd : (Cond.declares y).before a0 Z = true) (nf : ∀ s' : State, Z.Warmed39 s'.vm → NotFace s' y) (hy : y.cls ≠ "java/lang/invoke/MethodHandle" ∧ y.cls ≠ "java/lang/invoke/VarHandle") : (Cond.sameMethod y.cls y.cls y.name y.desc).before a0 Z = true := by
  obtain ⟨r, meth, h1, h2, -, -⟩ := Cond.declares_spec wd
  obtain ⟨kr, k1, k2⟩ := nf Z (State.Warmed39.refl Z) r h1
  have c1 := findClass_of_methodNamed h1
  have f := State.methodFound?_of_named h1 hy
  simp [Cond.before, Cond.holds, Cond.value, c1, f, h1, k1, k2]
theorem declOf {Z : State} {a0 : Array Value} {y : MethodName} {bytes : ByteArray} {maxL : Nat} {ret : Option FieldType} (wi : (Cond.instanceMethod y).before a0 Z = true) (wc : (Cond.code y bytes maxL ret).before a0 Z = true) : (Cond.declares y).before a0 Z = true := by
  obtain ⟨r, meth, h1, h2, h3, -⟩ := Cond.instanceMethod_spec wi
  obtain ⟨m2, cM, q1, -, -, -, -, -, -, hsig⟩ := Cond.code_spec h1 wc
  cases h2.symm.trans q1
  simp [Cond.before, Cond.holds, Cond.value, h1, h2, h3, hsig]
/-! where a walk stands -/
def Wk (W : Bool) (Z : State) (a0 : Array Value) (EL : List (String × Nat)) (n0 : Nat) (h0 : Heap) (ws : List Addr) (own : String) (p : Program) (l : Launch) (e : Env) (R : Room) (s : State) (m : MethodId) (args : Array Value) (below : List Frame) (meth : Method) (c : Code) (sf : List Addr) (T : State) (h : Heap) (k n : Nat) : Prop :=
  ∃ (vm0 : Vm) (locs : List Loc) (k0 k' n' : Nat), (k' ≤ k ∧ n' ≤ n) ∧ Stand p l e R (s.setVm vm0) m args below meth c T locs k' n' ∧ T.heap = h ∧ (s.Since vm0 k0 ∧ k0 ≤ h.size) ∧ Z.Warmed39 vm0 ∧ vm0.findClass own = some m.cls ∧ Fr n0 locs ∧ Keep h0 h ws ∧ Old Z n0 h ∧
    (∀ x ∈ sf, n0 ≤ x ∧ (x ∈ ws ∨ h0.size ≤ x) ∧ x < h.size) ∧ (W = false → vm0 = s.vm) ∧ (W = true → EW Z a0 EL ∧ CHr Z EL s.vm h0 vm0 h ∧ ∀ x ∈ sf, Safe Z EL vm0 h x)
section Kit
variable {W : Bool} {Z : State} {a0 : Array Value} {EL : List (String × Nat)} {n0 : Nat} {h0 : Heap} {ws : List Addr} {own : String} {p : Program} {l : Launch} {e : Env} {R : Room} {s : State} {m : MethodId} {args : Array Value} {below : List Frame} {meth : Method} {c : Code} {sf : List Addr} {T : State} {h : Heap} {k n : Nat}
theorem Wk.here (A : Wk W Z a0 EL n0 h0 ws own p l e R s m args below meth c sf T h k n) : At T m c below := by
  obtain ⟨_, _, _, _, _, _, X, -⟩ := A; exact X.here
theorem Wk.old (A : Wk W Z a0 EL n0 h0 ws own p l e R s m args below meth c sf T h k n) : Old Z n0 h := by
  obtain ⟨_, _, _, _, _, _, _, _, _, _, _, _, _, O, -⟩ := A; exact O
theorem Wk.keep (A : Wk W Z a0 EL n0 h0 ws own p l e R s m args below meth c sf T h k n) : Keep h0 h ws := by
  obtain ⟨_, _, _, _, _, _, _, _, _, _, _, _, K, -⟩ := A; exact K
theorem Wk.zle (A : Wk W Z a0 EL n0 h0 ws own p l e R s m args below meth c sf T h k n) : n0 ≤ h.size := by
  obtain ⟨q, E⟩ := A.old; rw [← q]; exact E.1
theorem Wk.nle (A : Wk W Z a0 EL n0 h0 ws own p l e R s m args below meth c sf T h k n) {x : Addr} (hx : x ∈ sf) : n0 ≤ x := by
  obtain ⟨_, _, _, _, _, _, _, _, _, _, _, _, _, _, f, -⟩ := A; exact (f x hx).1
theorem Wk.mono {k' n' : Nat} (A : Wk W Z a0 EL n0 h0 ws own p l e R s m args below meth c sf T h k n) (hk : k ≤ k') (hn : n ≤ n') : Wk W Z a0 EL n0 h0 ws own p l e R s m args below meth c sf T h k' n' := by
  obtain ⟨vm0, locs, k0, k1, n1, ⟨q1, q2⟩, r⟩ := A
  exact ⟨vm0, locs, k0, k1, n1, ⟨Nat.le_trans q1 hk, Nat.le_trans q2 hn⟩, r⟩
theorem Wk.less {sf' : List Addr} (A : Wk W Z a0 EL n0 h0 ws own p l e R s m args below meth c sf T h k n) (q : ∀ x ∈ sf', x ∈ sf) : Wk W Z a0 EL n0 h0 ws own p l e R s m args below meth c sf' T h k n := by
  obtain ⟨vm0, locs, k0, k1, n1, b, X, eT, S, hZ, ho, N, K, O, f, w1, w2⟩ := A
  exact ⟨vm0, locs, k0, k1, n1, b, X, eT, S, hZ, ho, N, K, O, fun x hx => f x (q x hx), w1, fun e => ⟨(w2 e).1, (w2 e).2.1, fun x hx => (w2 e).2.2 x (q x hx)⟩⟩
theorem Wk.newO (A : Wk W Z a0 EL n0 h0 ws own p l e R s m args below meth c sf T h k n) (hx : p.tables.exec = Jvm.exec) {C : String} {index q : Nat} (w : (Cond.classLink own index C).before a0 Z = true) (wi : (Cond.instantiable C q).before a0 Z = true) (wz : (Cond.initialized C).before a0 Z = true)
    {g : JFrame} (hg : g.method = m) (hd : decode c.code g.pc = .ok (.new index, 3)) (hc : k + 1 ≤ R.cells) (hl : n + q ≤ R.slots) :
    ∃ (a : Addr) (T' : State) (h' : Heap), Wk W Z a0 EL n0 h0 ws own p l e R s m args below meth c (a :: sf) T' h' (k + 1) (n + q) ∧ Ext h h' ∧ h.size = a ∧ Exa Z h' a C ∧ (∀ {O nm d : String} {ty : FieldType}, Laid Z a0 C O nm d → parseFieldDescriptor d = some ty → Fld Z h' a O nm d (defaultValue ty)) ∧
      ∀ t, Steps p.tables e below (T'.setTop { g with pc := g.pc + 3, stack := .ref a :: g.stack }) t → Steps p.tables e below (T.setTop g) t := by
  obtain ⟨vm0, locs, k0, k1, n1, ⟨b1, b2⟩, X, eT, ⟨S, S0⟩, hZ, ho, N, K, O, f, w1, w2⟩ := A
  obtain ⟨T', h', X', e', E, Ex, D, -, st⟩ := RoadKit.newO X hx hZ ho w wi wz eT hg hd (by omega) (by omega)
  refine ⟨_, T', h', ⟨vm0, locs, k0, _, _, ⟨by omega, by omega⟩, X', e', ⟨S, Nat.le_trans S0 E.1⟩, hZ, ho, N, K.ext E, O.ext E, ?_, w1, ?_⟩, E, rfl, Ex, D, st⟩
  · intro x hx'
    rcases List.mem_cons.mp hx' with rfl | hx'
    · exact ⟨by have := O.1; have := O.2.1; omega, Or.inr K.1, Ex.lt⟩
    · exact ⟨(f x hx').1, (f x hx').2.1, Nat.lt_of_lt_of_le (f x hx').2.2 E.1⟩
  · intro ew
    obtain ⟨v1, v2, v3⟩ := w2 ew
    refine ⟨v1, v2.trans (CHr.ext E v2.1), fun x hx' => ?_⟩
    rcases List.mem_cons.mp hx' with rfl | hx'
    · exact Safe.ext E v2.1 (Safe.new (Nat.le_refl _))
    · exact Safe.ext E v2.1 (v3 x hx')
theorem Wk.newP (A : Wk W Z a0 EL n0 h0 ws own p l e R s m args below meth c sf T h k n) (hx : p.tables.exec = Jvm.exec) {aty : ArrayType} (w : (Cond.arrayClass (newarray.typeOf aty)).before a0 Z = true)
    {g : JFrame} (hg : g.method = m) (hd : decode c.code g.pc = .ok (.newarray aty, 2)) {N : Int32} {rest : List Value} (hs : g.stack = .int N :: rest) (hn : ¬ N < 0) {cap : Nat} (hcap : N.toNatClampNeg ≤ cap) (hb : cap * 8 ≤ 536870912) (hc : k + 1 ≤ R.cells) (hl : n + cap ≤ R.slots) :
    ∃ (a : Addr) (T' : State) (h' : Heap) (kA : ClassId), Wk W Z a0 EL n0 h0 ws own p l e R s m args below meth c (a :: sf) T' h' (k + 1) (n + cap) ∧ Ext h h' ∧ h.size = a ∧ Arv Z h' a kA (newarray.typeOf aty) N (List.replicate cap (defaultValue (newarray.typeOf aty))) (defaultValue (newarray.typeOf aty)) ∧
      ∀ t, Steps p.tables e below (T'.setTop { g with pc := g.pc + 2, stack := .ref a :: rest }) t → Steps p.tables e below (T.setTop g) t := by
  obtain ⟨vm0, locs, k0, k1, n1, ⟨b1, b2⟩, X, eT, ⟨S, S0⟩, hZ, ho, Nf, K, O, f, w1, w2⟩ := A
  obtain ⟨T', h', kA, X', e', E, Ar, st⟩ := RoadKit.newP X hx hZ w eT hg hd hs hn hcap hb (by omega) (by omega)
  have V := (Arv.new Ar hn).pad (pad_rep [] (defaultValue (newarray.typeOf aty)) cap)
  refine ⟨_, T', h', kA, ⟨vm0, locs, k0, _, _, ⟨by omega, by omega⟩, X', e', ⟨S, Nat.le_trans S0 E.1⟩, hZ, ho, Nf, K.ext E, O.ext E, ?_, w1, ?_⟩, E, rfl, V, st⟩
  · intro x hx'
    rcases List.mem_cons.mp hx' with rfl | hx'
    · exact ⟨by have := O.1; have := O.2.1; omega, Or.inr K.1, Ar.lt⟩
    · exact ⟨(f x hx').1, (f x hx').2.1, Nat.lt_of_lt_of_le (f x hx').2.2 E.1⟩
  · intro ew
    obtain ⟨v1, v2, v3⟩ := w2 ew
    refine ⟨v1, v2.trans (CHr.ext E v2.1), fun x hx' => ?_⟩
    rcases List.mem_cons.mp hx' with rfl | hx'
    · exact Safe.ext E v2.1 (Safe.new (Nat.le_refl _))
    · exact Safe.ext E v2.1 (v3 x hx')
theorem Wk.newPE (A : Wk W Z a0 EL n0 h0 ws own p l e R s m args below meth c sf T h k n) (hx : p.tables.exec = Jvm.exec) {aty : ArrayType} (w : (Cond.arrayClass (newarray.typeOf aty)).before a0 Z = true)
    {g : JFrame} (hg : g.method = m) (hd : decode c.code g.pc = .ok (.newarray aty, 2)) {N : Int32} {rest : List Value} (hs : g.stack = .int N :: rest) (hn : ¬ N < 0) {cap : Nat} (hcap : N.toNatClampNeg ≤ cap) (hb : cap * 8 ≤ 536870912) (hc : k + 1 ≤ R.cells) (hl : n + cap ≤ R.slots) {ad : String} (had : "[" ++ (newarray.typeOf aty).toString = ad) :
    ∃ (a : Addr) (T' : State) (h' : Heap) (kA : ClassId), Wk W Z a0 EL n0 h0 ws own p l e R s m args below meth c (a :: sf) T' h' (k + 1) (n + cap) ∧ Ext h h' ∧ h.size = a ∧ Arv Z h' a kA (newarray.typeOf aty) N (List.replicate cap (defaultValue (newarray.typeOf aty))) (defaultValue (newarray.typeOf aty)) ∧ Exa Z h' a ad ∧
      ∀ t, Steps p.tables e below (T'.setTop { g with pc := g.pc + 2, stack := .ref a :: rest }) t → Steps p.tables e below (T.setTop g) t := by
  obtain ⟨vm0, locs, k0, k1, n1, ⟨b1, b2⟩, X, eT, ⟨S, S0⟩, hZ, ho, Nf, K, O, f, w1, w2⟩ := A
  obtain ⟨T', h', kA, X', e', E, Ar, Ex, st⟩ := RoadKit.newPE X hx hZ w eT hg hd hs hn hcap hb (by omega) (by omega) had
  have V := (Arv.new Ar hn).pad (pad_rep [] (defaultValue (newarray.typeOf aty)) cap)
  refine ⟨_, T', h', kA, ⟨vm0, locs, k0, _, _, ⟨by omega, by omega⟩, X', e', ⟨S, Nat.le_trans S0 E.1⟩, hZ, ho, Nf, K.ext E, O.ext E, ?_, w1, ?_⟩, E, rfl, V, Ex, st⟩
  · intro x hx'
    rcases List.mem_cons.mp hx' with rfl | hx'
    · exact ⟨by have := O.1; have := O.2.1; omega, Or.inr K.1, Ar.lt⟩
    · exact ⟨(f x hx').1, (f x hx').2.1, Nat.lt_of_lt_of_le (f x hx').2.2 E.1⟩
  · intro ew
    obtain ⟨v1, v2, v3⟩ := w2 ew
    refine ⟨v1, v2.trans (CHr.ext E v2.1), fun x hx' => ?_⟩
    rcases List.mem_cons.mp hx' with rfl | hx'
    · exact Safe.ext E v2.1 (Safe.new (Nat.le_refl _))
    · exact Safe.ext E v2.1 (v3 x hx')
theorem Wk.clone (A : Wk W Z a0 EL n0 h0 ws own p l e R s m args below meth c sf T h k n) (hx : p.tables.exec = Jvm.exec) {ad : String} {index : Nat}
    (v1 : (Cond.methodLink own index ⟨ad, "clone", "()Ljava/lang/Object;"⟩).before a0 Z = true) (v2 : (Cond.sameMethod ad "java/lang/Object" "clone" "()Ljava/lang/Object;").before a0 Z = true) (v3 : (Cond.native ⟨"java/lang/Object", "clone", "()Ljava/lang/Object;"⟩).before a0 Z = true)
    (v4 : (Cond.instanceMethod ⟨"java/lang/Object", "clone", "()Ljava/lang/Object;"⟩).before a0 Z = true) (v5 : (Cond.selects ad ⟨ad, "clone", "()Ljava/lang/Object;"⟩ ⟨"java/lang/Object", "clone", "()Ljava/lang/Object;"⟩).before a0 Z = true) (v6 : (Cond.castable ad "java/lang/Cloneable").before a0 Z = true)
    {b : Addr} {kb : ClassId} {ty : FieldType} {z : Int32} {vs : List Value} {d : Value} (V : Arv Z h b kb ty z vs d) (E : Exa Z h b ad) {g : JFrame} (hg : g.method = m) (hsize : g.locals.size = c.maxLocals) {rest : List Value} (hs : g.stack = .ref b :: rest) (hd : decode c.code g.pc = .ok (.invokevirtual index, 3))
    (hf : 1 ≤ R.frames) {Wd cap : Nat} (hW : 2 * g.monitorRoom + (rest.map fun v => v.category).sum ≤ Wd) (hl : Wd + 14 ≤ R.locals) (hcap : z.toNatClampNeg ≤ cap) (hc : k + 1 ≤ R.cells) (hsl : n + cap ≤ R.slots) :
    ∃ (a : Addr) (T' : State) (h' : Heap), Wk W Z a0 EL n0 h0 ws own p l e R s m args below meth c (a :: sf) T' h' (k + 1) (n + cap) ∧ Ext h h' ∧ h.size = a ∧ Arv Z h' a kb ty z vs d ∧ Exa Z h' a ad ∧
      ∀ t, Steps p.tables e below (T'.setTop { g with pc := g.pc + 3, stack := .ref a :: rest }) t → Steps p.tables e below (T.setTop g) t := by
  obtain ⟨vm0, locs, k0, k1, n1, ⟨b1, b2⟩, X, eT, ⟨S, S0⟩, hZ, ho, Nf, K, O, f, w1, w2⟩ := A
  obtain ⟨T', h', X', e', Ex, Ar, Ea, st⟩ := RoadKit.cloneH X hx hZ ho v1 v2 v3 v4 v5 v6 eT V.arh E hg hsize hs hd hf hW hl hcap (by omega) (by omega)
  refine ⟨_, T', h', ⟨vm0, locs, k0, _, _, ⟨by omega, by omega⟩, X', e', ⟨S, Nat.le_trans S0 Ex.1⟩, hZ, ho, Nf, K.ext Ex, O.ext Ex, ?_, w1, ?_⟩, Ex, rfl, Ar, Ea, st⟩
  · intro x hx'
    rcases List.mem_cons.mp hx' with rfl | hx'
    · exact ⟨by have := O.1; have := O.2.1; omega, Or.inr K.1, Ea.lt⟩
    · exact ⟨(f x hx').1, (f x hx').2.1, Nat.lt_of_lt_of_le (f x hx').2.2 Ex.1⟩
  · intro ew
    obtain ⟨q1, q2, q3⟩ := w2 ew
    refine ⟨q1, q2.trans (CHr.ext Ex q2.1), fun x hx' => ?_⟩
    rcases List.mem_cons.mp hx' with rfl | hx'
    · exact Safe.ext Ex q2.1 (Safe.new (Nat.le_refl _))
    · exact Safe.ext Ex q2.1 (q3 x hx')
/-- one place of a cell of our own is written -/
theorem Wk.wrote {T' : State} {h' : Heap} {a : Addr} {sl : Nat} {v : Value} {vm0 : Vm} {locs : List Loc} {k0 k1 n1 : Nat} (X' : Stand p l e R (s.setVm vm0) m args below meth c T' (locs ++ [⟨a, sl⟩]) k1 n1) (e' : T'.heap = h') (Wr' : Wr h h' a sl v) (ha : a ∈ sf)
    (b : k1 ≤ k ∧ n1 ≤ n) (S : s.Since vm0 k0 ∧ k0 ≤ h.size) (hZ : Z.Warmed39 vm0) (ho : vm0.findClass own = some m.cls) (N : Fr n0 locs) (K : Keep h0 h ws) (O : Old Z n0 h) (f : ∀ x ∈ sf, n0 ≤ x ∧ (x ∈ ws ∨ h0.size ≤ x) ∧ x < h.size) (w1 : W = false → vm0 = s.vm) (w2 : W = true → EW Z a0 EL ∧ CHr Z EL s.vm h0 vm0 h ∧ ∀ x ∈ sf, Safe Z EL vm0 h x) :
    Wk W Z a0 EL n0 h0 ws own p l e R s m args below meth c sf T' h' k n := by
  obtain ⟨f1, f2, f3⟩ := f a ha
  refine ⟨vm0, _, k0, k1, n1, b, X', e', ⟨S.1, by rw [Wr'.size]; exact S.2⟩, hZ, ho, Fr.snoc X' N f1, K.wr Wr' f2, O.wr Wr' f1, fun x hx => ?_, w1, fun ew => ?_⟩
  · rw [Wr'.size]; exact f x hx
  · obtain ⟨v1, v2, v3⟩ := w2 ew
    exact ⟨v1, v2.trans (CHr.wr Wr' (v3 a ha) v2.1), fun x hx => Safe.wr Wr' (v3 a ha) v2.1 (v3 x hx)⟩
theorem Wk.stC (A : Wk W Z a0 EL n0 h0 ws own p l e R s m args below meth c sf T h k n) (hx : p.tables.exec = Jvm.exec) {b : Addr} {kb : ClassId} {N : Int32} {vs : List Value} {d : Value} (V : Arv Z h b kb .char N vs d) (hb : b ∈ sf) {j x : Int32} (i : Nat) (hj : j.toNatClampNeg = i) (hjn : ¬ j < 0 ∧ j < N) (hi : i < vs.length)
    {g : JFrame} (hg : g.method = m) {rest : List Value} (hs : g.stack = .int x :: .int j :: .ref b :: rest) (hd : decode c.code g.pc = .ok (.castore, 1)) :
    ∃ (T' : State) (h' : Heap), Wk W Z a0 EL n0 h0 ws own p l e R s m args below meth c sf T' h' k n ∧ Keep h h' [b] ∧ Arv Z h' b kb .char N (vs.set i (.int (nar .char x))) d ∧
      ∀ t, Steps p.tables e below (T'.setTop { g with pc := g.pc + 1, stack := rest }) t → Steps p.tables e below (T.setTop g) t := by
  obtain ⟨vm0, locs, k0, k1, n1, bb, X, eT, S, hZ, ho, Nf, K, O, f, w1, w2⟩ := A
  obtain ⟨cl, Ar, q, Sz, Nn, H, G⟩ := V
  obtain ⟨T', h', X', e', Wr', st⟩ := RoadKit.stC X hx hZ eT Ar (j := j) (inb_of Sz hjn) hg hs hd
  exact ⟨T', h', Wk.wrote X' e' Wr' hb bb S hZ ho Nf K O f w1 w2, Keep.of_wr Wr', Arv.set Ar q Sz Nn H G (fits_nar_char _) Wr' i hj hi, st⟩
theorem Wk.stB (A : Wk W Z a0 EL n0 h0 ws own p l e R s m args below meth c sf T h k n) (hx : p.tables.exec = Jvm.exec) {b : Addr} {kb : ClassId} {N : Int32} {vs : List Value} {d : Value} (V : Arv Z h b kb .byte N vs d) (hb : b ∈ sf) {j x : Int32} (i : Nat) (hj : j.toNatClampNeg = i) (hjn : ¬ j < 0 ∧ j < N) (hi : i < vs.length) (hf : fits .byte (.int (nar .byte x)) = true)
    {g : JFrame} (hg : g.method = m) {rest : List Value} (hs : g.stack = .int x :: .int j :: .ref b :: rest) (hd : decode c.code g.pc = .ok (.bastore, 1)) :
    ∃ (T' : State) (h' : Heap), Wk W Z a0 EL n0 h0 ws own p l e R s m args below meth c sf T' h' k n ∧ Keep h h' [b] ∧ Arv Z h' b kb .byte N (vs.set i (.int (nar .byte x))) d ∧
      ∀ t, Steps p.tables e below (T'.setTop { g with pc := g.pc + 1, stack := rest }) t → Steps p.tables e below (T.setTop g) t := by
  obtain ⟨vm0, locs, k0, k1, n1, bb, X, eT, S, hZ, ho, Nf, K, O, f, w1, w2⟩ := A
  obtain ⟨cl, Ar, q, Sz, Nn, H, G⟩ := V
  obtain ⟨T', h', X', e', Wr', st⟩ := RoadKit.stB X hx hZ eT Ar (j := j) (inb_of Sz hjn) hg hs hd
  exact ⟨T', h', Wk.wrote X' e' Wr' hb bb S hZ ho Nf K O f w1 w2, Keep.of_wr Wr', Arv.set Ar q Sz Nn H G hf Wr' i hj hi, st⟩
theorem Wk.putF (A : Wk W Z a0 EL n0 h0 ws own p l e R s m args below meth c sf T h k n) (hx : p.tables.exec = Jvm.exec) {R0 O fn d C : String} {index kk : Nat} {ty : FieldType} (w : (Cond.fieldLink own index R0 fn d).before a0 Z = true) (via : Via Z R0 O fn d) {a : Addr} (ha : a ∈ sf) {v v' old : Value} (F : Fld Z h a O fn d old) (E : Exa Z h a C)
    (L : (Cond.lays C O fn d).before a0 Z = true ∨ ((Cond.laysFinal C O fn d).before a0 Z = true ∧ own = O ∧ meth.name = "<init>")) (wi : (Cond.instantiable C kk).before a0 Z = true) (hty : parseFieldDescriptor d = some ty) (hn : narrow ty v = v') (hf : fits ty v' = true) {g : JFrame} (hg : g.method = m) {rest : List Value} (hs : g.stack = v :: .ref a :: rest) (hd : decode c.code g.pc = .ok (.putfield index, 3)) :
    ∃ (T' : State) (h' : Heap), Wk W Z a0 EL n0 h0 ws own p l e R s m args below meth c sf T' h' k n ∧ Keep h h' [a] ∧ Wr h h' a (RoadKit.slotOf Z O fn d) v' ∧
      ∀ t, Steps p.tables e below (T'.setTop { g with pc := g.pc + 3, stack := rest }) t → Steps p.tables e below (T.setTop g) t := by
  obtain ⟨vm0, locs, k0, k1, n1, bb, X, eT, S, hZ, ho, Nf, K, Od, f, w1, w2⟩ := A
  obtain ⟨T', h', X', e', Wr', st⟩ := RoadKit.putFN X hx hZ ho w via eT F E L wi hty hn hf hg hs hd
  exact ⟨T', h', Wk.wrote X' e' Wr' ha bb S hZ ho Nf K Od f w1 w2, Keep.of_wr Wr', Wr', st⟩
/-- a step that leaves the heap -/
theorem Wk.stay {T' : State} {vm0 : Vm} {locs : List Loc} {k0 k1 n1 : Nat} (X' : Stand p l e R (s.setVm vm0) m args below meth c T' locs k1 n1) (e' : T'.heap = h)
    (b : k1 ≤ k ∧ n1 ≤ n) (S : s.Since vm0 k0 ∧ k0 ≤ h.size) (hZ : Z.Warmed39 vm0) (ho : vm0.findClass own = some m.cls) (N : Fr n0 locs) (K : Keep h0 h ws) (O : Old Z n0 h) (f : ∀ x ∈ sf, n0 ≤ x ∧ (x ∈ ws ∨ h0.size ≤ x) ∧ x < h.size) (w1 : W = false → vm0 = s.vm) (w2 : W = true → EW Z a0 EL ∧ CHr Z EL s.vm h0 vm0 h ∧ ∀ x ∈ sf, Safe Z EL vm0 h x) :
    Wk W Z a0 EL n0 h0 ws own p l e R s m args below meth c sf T' h k n := ⟨vm0, locs, k0, k1, n1, b, X', e', S, hZ, ho, N, K, O, f, w1, w2⟩
theorem Wk.getF (A : Wk W Z a0 EL n0 h0 ws own p l e R s m args below meth c sf T h k n) (hx : p.tables.exec = Jvm.exec) {R0 O fn d : String} {index : Nat} (w : (Cond.fieldLink own index R0 fn d).before a0 Z = true) (via : Via Z R0 O fn d) {a : Addr} {v : Value} (F : Fld Z h a O fn d v) {g : JFrame} (hg : g.method = m) {rest : List Value} (hs : g.stack = .ref a :: rest) (hd : decode c.code g.pc = .ok (.getfield index, 3)) :
    ∃ (T' : State), Wk W Z a0 EL n0 h0 ws own p l e R s m args below meth c sf T' h k n ∧
      ∀ t, Steps p.tables e below (T'.setTop { g with pc := g.pc + 3, stack := v :: rest }) t → Steps p.tables e below (T.setTop g) t := by
  obtain ⟨vm0, locs, k0, k1, n1, bb, X, eT, S, hZ, ho, Nf, K, O, f, w1, w2⟩ := A
  obtain ⟨T', X', e', st⟩ := RoadKit.getF X hx hZ ho (host := "") (Or.inl w) via eT F hg hs hd
  exact ⟨T', Wk.stay X' e' bb S hZ ho Nf K O f w1 w2, st⟩
theorem Wk.getS (A : Wk W Z a0 EL n0 h0 ws own p l e R s m args below meth c sf T h k n) (hx : p.tables.exec = Jvm.exec) {R0 O fn d : String} {index : Nat} (w : (Cond.fieldLink own index R0 fn d).before a0 Z = true) (via : Via Z R0 O fn d) {v : Value} (F : Sta Z h O fn d v) {g : JFrame} (hg : g.method = m) (hd : decode c.code g.pc = .ok (.getstatic index, 3)) :
    ∃ (T' : State), Wk W Z a0 EL n0 h0 ws own p l e R s m args below meth c sf T' h k n ∧
      ∀ t, Steps p.tables e below (T'.setTop { g with pc := g.pc + 3, stack := v :: g.stack }) t → Steps p.tables e below (T.setTop g) t := by
  obtain ⟨vm0, locs, k0, k1, n1, bb, X, eT, S, hZ, ho, Nf, K, O, f, w1, w2⟩ := A
  obtain ⟨T', X', e', st⟩ := RoadKit.getS X hx hZ (host := "") ho w via eT F hg hd
  exact ⟨T', Wk.stay X' e' bb S hZ ho Nf K O f w1 w2, st⟩
theorem Wk.castY (A : Wk W Z a0 EL n0 h0 ws own p l e R s m args below meth c sf T h k n) (hx : p.tables.exec = Jvm.exec) {KK : String} {index : Nat} (w : (Cond.classLink own index KK).before a0 Z = true) {a : Addr} (F : Ins Z h a KK true) {g : JFrame} (hg : g.method = m) {rest : List Value} (hs : g.stack = .ref a :: rest) (hd : decode c.code g.pc = .ok (.checkcast index, 3)) :
    ∃ (T' : State), Wk W Z a0 EL n0 h0 ws own p l e R s m args below meth c sf T' h k n ∧
      ∀ t, Steps p.tables e below (T'.setTop { g with pc := g.pc + 3 }) t → Steps p.tables e below (T.setTop g) t := by
  obtain ⟨vm0, locs, k0, k1, n1, bb, X, eT, S, hZ, ho, Nf, K, O, f, w1, w2⟩ := A
  obtain ⟨T', X', e', st⟩ := RoadKit.castY X hx hZ ho w eT F hg hs hd
  exact ⟨T', Wk.stay X' e' bb S hZ ho Nf K O f w1 w2, st⟩
theorem Wk.instY (A : Wk W Z a0 EL n0 h0 ws own p l e R s m args below meth c sf T h k n) (hx : p.tables.exec = Jvm.exec) {KK : String} {index : Nat} (w : (Cond.classLink own index KK).before a0 Z = true) {a : Addr} (F : Ins Z h a KK true) {g : JFrame} (hg : g.method = m) {rest : List Value} (hs : g.stack = .ref a :: rest) (hd : decode c.code g.pc = .ok (.instanceof index, 3)) :
    ∃ (T' : State), Wk W Z a0 EL n0 h0 ws own p l e R s m args below meth c sf T' h k n ∧
      ∀ t, Steps p.tables e below (T'.setTop { g with pc := g.pc + 3, stack := .int 1 :: rest }) t → Steps p.tables e below (T.setTop g) t := by
  obtain ⟨vm0, locs, k0, k1, n1, bb, X, eT, S, hZ, ho, Nf, K, O, f, w1, w2⟩ := A
  obtain ⟨T', X', e', st⟩ := RoadKit.instY X hx hZ ho w eT F hg hs hd
  exact ⟨T', Wk.stay X' e' bb S hZ ho Nf K O f w1 w2, st⟩
theorem Wk.instNo (A : Wk W Z a0 EL n0 h0 ws own p l e R s m args below meth c sf T h k n) (hx : p.tables.exec = Jvm.exec) {KK C : String} {index : Nat} (w : (Cond.classLink own index KK).before a0 Z = true) {a : Addr} (E : Exa Z h a C) (F : ∃ c t, Z.vm.findClass C = some c ∧ Z.vm.findClass KK = some t ∧ Z.vm.assignable c t = false) {g : JFrame} (hg : g.method = m) {rest : List Value} (hs : g.stack = .ref a :: rest) (hd : decode c.code g.pc = .ok (.instanceof index, 3)) :
    ∃ (T' : State), Wk W Z a0 EL n0 h0 ws own p l e R s m args below meth c sf T' h k n ∧
      ∀ t, Steps p.tables e below (T'.setTop { g with pc := g.pc + 3, stack := .int 0 :: rest }) t → Steps p.tables e below (T.setTop g) t := by
  obtain ⟨vm0, locs, k0, k1, n1, bb, X, eT, S, hZ, ho, Nf, K, O, f, w1, w2⟩ := A
  obtain ⟨T', X', e', st⟩ := RoadKit.instNo X hx hZ ho w eT E F hg hs hd
  exact ⟨T', Wk.stay X' e' bb S hZ ho Nf K O f w1 w2, st⟩
theorem Wk.instNull (A : Wk W Z a0 EL n0 h0 ws own p l e R s m args below meth c sf T h k n) (hx : p.tables.exec = Jvm.exec) {index : Nat} {g : JFrame} (hg : g.method = m) {rest : List Value} (hs : g.stack = .null :: rest) (hd : decode c.code g.pc = .ok (.instanceof index, 3)) :
    ∀ t, Steps p.tables e below (T.setTop { g with pc := g.pc + 3, stack := .int 0 :: rest }) t → Steps p.tables e below (T.setTop g) t := by
  obtain ⟨vm0, locs, k0, k1, n1, bb, X, eT, S, hZ, ho, Nf, K, O, f, w1, w2⟩ := A
  exact X.instanceofNull hx hg hs hd
theorem Wk.castNull (A : Wk W Z a0 EL n0 h0 ws own p l e R s m args below meth c sf T h k n) (hx : p.tables.exec = Jvm.exec) {index : Nat} {g : JFrame} (hg : g.method = m) {rest : List Value} (hs : g.stack = .null :: rest) (hd : decode c.code g.pc = .ok (.checkcast index, 3)) :
    ∀ t, Steps p.tables e below (T.setTop { g with pc := g.pc + 3 }) t → Steps p.tables e below (T.setTop g) t := by
  obtain ⟨vm0, locs, k0, k1, n1, bb, X, eT, S, hZ, ho, Nf, K, O, f, w1, w2⟩ := A
  exact X.checkcastNull hx hg hs hd
theorem Wk.initO (A : Wk W Z a0 EL n0 h0 ws own p l e R s m args below meth c sf T h k n) (hx : p.tables.exec = Jvm.exec) {idx : Nat} (w1' : (Cond.methodLink own idx Lib.objectInit).before a0 Z = true) (w2' : (Cond.instanceMethod Lib.objectInit).before a0 Z = true) (w3' : (Cond.code Lib.objectInit ⟨#[0xb1]⟩ 1 none).before a0 Z = true) {g : JFrame} (hg : g.method = m) (hsize : g.locals.size = c.maxLocals) {a : Addr} {rest : List Value} (hs : g.stack = .ref a :: rest) (hd : decode c.code g.pc = .ok (.invokespecial idx, 3))
    (hf : 1 ≤ R.frames) {Wd : Nat} (hW : 2 * g.monitorRoom + (rest.map fun v => v.category).sum ≤ Wd) (hl : Wd + 12 ≤ R.locals) :
    ∃ (T' : State), Wk W Z a0 EL n0 h0 ws own p l e R s m args below meth c sf T' h k n ∧
      ∀ t, Steps p.tables e below (T'.setTop { g with pc := g.pc + 3, stack := rest }) t → Steps p.tables e below (T.setTop g) t := by
  obtain ⟨vm0, locs, k0, k1, n1, bb, X, eT, S, hZ, ho, Nf, K, O, f, w1, w2⟩ := A
  obtain ⟨T', X', e', st⟩ := RoadKit.initO X hx hZ ho w1' w2' w3' eT hg hsize hs hd hf hW hl
  exact ⟨T', Wk.stay X' e' bb S hZ ho Nf K O f w1 w2, st⟩
theorem Wk.ldcI (A : Wk W Z a0 EL n0 h0 ws own p l e R s m args below meth c sf T h k n) (hx : p.tables.exec = Jvm.exec) {index : Nat} {v : Int32} (w : (Cond.constant own index v).before a0 Z = true) {g : JFrame} (hg : g.method = m) (hd : decode c.code g.pc = .ok (.ldc index, 2)) :
    ∀ t, Steps p.tables e below (T.setTop { g with pc := g.pc + 2, stack := .int v :: g.stack }) t → Steps p.tables e below (T.setTop g) t := by
  obtain ⟨vm0, locs, k0, k1, n1, bb, X, eT, S, hZ, ho, Nf, K, O, f, w1, w2⟩ := A
  exact X.ldcInt hx ho (mvT (s := s.setVm vm0) hZ w) hg hd
theorem Wk.ldcL (A : Wk W Z a0 EL n0 h0 ws own p l e R s m args below meth c sf T h k n) (hx : p.tables.exec = Jvm.exec) {index : Nat} {v : Int64} (w : (Cond.constantLong own index v).before a0 Z = true) {g : JFrame} (hg : g.method = m) (hd : decode c.code g.pc = .ok (.ldc2_w index, 3)) :
    ∀ t, Steps p.tables e below (T.setTop { g with pc := g.pc + 3, stack := .long v :: g.stack }) t → Steps p.tables e below (T.setTop g) t := by
  obtain ⟨vm0, locs, k0, k1, n1, bb, X, eT, S, hZ, ho, Nf, K, O, f, w1, w2⟩ := A
  exact X.ldc2Long hx ho (mvT (s := s.setVm vm0) hZ w) hg hd
theorem Wk.ldB (A : Wk W Z a0 EL n0 h0 ws own p l e R s m args below meth c sf T h k n) (hx : p.tables.exec = Jvm.exec) {b : Addr} {kb : ClassId} {N : Int32} {vs : List Value} {d : Value} (V : Arv Z h b kb .byte N vs d) {j : Int32} (i : Nat) (hj : j.toNatClampNeg = i) (hjn : ¬ j < 0 ∧ j < N) {v : Value} (hv : vs.getD i d = v)
    {g : JFrame} (hg : g.method = m) {rest : List Value} (hs : g.stack = .int j :: .ref b :: rest) (hd : decode c.code g.pc = .ok (.baload, 1)) :
    ∀ t, Steps p.tables e below (T.setTop { g with pc := g.pc + 1, stack := v :: rest }) t → Steps p.tables e below (T.setTop g) t := by
  obtain ⟨vm0, locs, k0, k1, n1, bb, X, eT, S, hZ, ho, Nf, K, O, f, w1, w2⟩ := A
  obtain ⟨cl, Ar, q, Sz, Nn, H, G⟩ := V
  have hin := inb_of Sz hjn
  subst hj
  exact fun t kk => X.baloadBytes hx (by rw [eT]; exact Ar.1) (State.isArrayOf_alike hZ.alike Ar.2.1) Ar.2.2 hin (by rw [H _ (Nat.lt_of_not_le fun q => hin (Or.inr q)), hv]) hg hs hd t kk
theorem Wk.ldC (A : Wk W Z a0 EL n0 h0 ws own p l e R s m args below meth c sf T h k n) (hx : p.tables.exec = Jvm.exec) {b : Addr} {kb : ClassId} {N : Int32} {vs : List Value} {d : Value} (V : Arv Z h b kb .char N vs d) {j : Int32} (i : Nat) (hj : j.toNatClampNeg = i) (hjn : ¬ j < 0 ∧ j < N) {v : Value} (hv : vs.getD i d = v)
    {g : JFrame} (hg : g.method = m) {rest : List Value} (hs : g.stack = .int j :: .ref b :: rest) (hd : decode c.code g.pc = .ok (.caload, 1)) :
    ∀ t, Steps p.tables e below (T.setTop { g with pc := g.pc + 1, stack := v :: rest }) t → Steps p.tables e below (T.setTop g) t := by
  obtain ⟨vm0, locs, k0, k1, n1, bb, X, eT, S, hZ, ho, Nf, K, O, f, w1, w2⟩ := A
  obtain ⟨cl, Ar, q, Sz, Nn, H, G⟩ := V
  have hin := inb_of Sz hjn
  subst hj
  exact fun t kk => X.caload hx (by rw [eT]; exact Ar.1) (State.isArrayOf_alike hZ.alike Ar.2.1) Ar.2.2 hin (by rw [H _ (Nat.lt_of_not_le fun q => hin (Or.inr q)), hv]) hg hs hd t kk
theorem Wk.alen (A : Wk W Z a0 EL n0 h0 ws own p l e R s m args below meth c sf T h k n) (hx : p.tables.exec = Jvm.exec) {b : Addr} {kb : ClassId} {ty : FieldType} {N : Int32} {vs : List Value} {d : Value} (V : Arv Z h b kb ty N vs d) {g : JFrame} (hg : g.method = m) {rest : List Value} (hs : g.stack = .ref b :: rest) (hd : decode c.code g.pc = .ok (.arraylength, 1)) :
    ∀ t, Steps p.tables e below (T.setTop { g with pc := g.pc + 1, stack := .int N :: rest }) t → Steps p.tables e below (T.setTop g) t := by
  obtain ⟨vm0, locs, k0, k1, n1, bb, X, eT, S, hZ, ho, Nf, K, O, f, w1, w2⟩ := A
  obtain ⟨cl, Ar, q, Sz, Nn, H, G⟩ := V
  intro t kk
  refine X.arraylength hx (cell := cl) (by rw [eT]; exact Ar.1) (State.isArrayOf_alike (Vm.Alike.trans (Vm.Alike.refl _) hZ.alike) Ar.2.1) hg hs hd _ ?_
  rw [len_of Sz Nn]; exact kk
/-! what pays a call -/
abbrev PayN (l : Launch) (R : Room) (p : Program) (e : Env) (below : List Frame) (s : State) (args : Array Value) (y : MethodName) (len Wd : Nat) (as : Array Value) (h : Heap) (kc ks : Nat) (Q : Option Value → Heap → List Loc → Prop) : Prop :=
  Back l R p e below s args y len Wd (fun A a => a = as ∧ A.U.heap = h ∧ A.cells + kc ≤ R.cells ∧ A.slots + ks ≤ R.slots) (fun A _ v B => ∃ L, Q v B.U.heap L ∧ B.locs = A.locs ++ L ∧ B.cells = A.cells + kc ∧ B.slots = A.slots + ks)
abbrev PayW (Z : State) (EL : List (String × Nat)) (l : Launch) (R : Room) (p : Program) (e : Env) (below : List Frame) (s : State) (vm0 : Vm) (args : Array Value) (y : MethodName) (len Wd : Nat) (as : Array Value) (h : Heap) (kc ks : Nat) (Q : Option Value → Heap → List Loc → Prop) : Prop :=
  BackS l R p e below (s.setVm vm0) args y len Wd (fun A a => a = as ∧ A.U.heap = h ∧ A.cells + kc ≤ R.cells ∧ A.slots + ks ≤ R.slots) (fun A _ v B => ∃ L, Q v B.U.heap L ∧ B.locs = A.locs ++ L ∧ B.cells = A.cells + kc ∧ B.slots = A.slots + ks ∧ CHr Z EL vm0 h B.U.vm B.U.heap)
/-- behind a call that interned nothing -/
theorem Wk.after {kc ks : Nat} {T' : State} {L locs : List Loc} {vm0 : Vm} {k0 k1 n1 : Nat} {wc : List Addr} (X' : Stand p l e R (s.setVm vm0) m args below meth c T' (locs ++ L) (k1 + kc) (n1 + ks))
    (b : k1 ≤ k ∧ n1 ≤ n) (S : s.Since vm0 k0 ∧ k0 ≤ h.size) (hZ : Z.Warmed39 vm0) (ho : vm0.findClass own = some m.cls) (N : Fr n0 locs) (K : Keep h0 h ws) (O : Old Z n0 h) (f : ∀ x ∈ sf, n0 ≤ x ∧ (x ∈ ws ∨ h0.size ≤ x) ∧ x < h.size) (w1 : W = false → vm0 = s.vm) (w2 : W = true → EW Z a0 EL ∧ CHr Z EL s.vm h0 vm0 h ∧ ∀ x ∈ sf, Safe Z EL vm0 h x)
    (NL : Fr n0 L) (Kc : Keep h T'.heap wc) (hws : ∀ x ∈ wc, x ∈ sf) (xs : List Addr) (hxs : ∀ x ∈ xs, x ∈ sf ∨ h.size ≤ x ∧ x < T'.heap.size) :
    Wk W Z a0 EL n0 h0 ws own p l e R s m args below meth c (xs ++ sf) T' T'.heap (k + kc) (n + ks) := by
  refine ⟨vm0, _, k0, _, _, ⟨by omega, by omega⟩, X', rfl, ⟨S.1, Nat.le_trans S.2 Kc.1⟩, hZ, ho, Fr.app N NL, K.trans Kc fun x hx => (f x (hws x hx)).2.1, O.keep Kc fun x hx => (f x (hws x hx)).1, fun x hx => ?_, w1, fun ew => ?_⟩
  · have old : x ∈ sf → n0 ≤ x ∧ (x ∈ ws ∨ h0.size ≤ x) ∧ x < T'.heap.size := fun hx => ⟨(f x hx).1, (f x hx).2.1, Nat.lt_of_lt_of_le (f x hx).2.2 Kc.1⟩
    rcases List.mem_append.mp hx with hx | hx
    · rcases hxs x hx with hx | ⟨q1, q2⟩
      · exact old hx
      · exact ⟨Nat.le_trans (by rw [← O.1]; exact O.2.1) q1, Or.inr (Nat.le_trans K.1 q1), q2⟩
    · exact old hx
  · obtain ⟨v1, v2, v3⟩ := w2 ew
    refine ⟨v1, v2.trans (CHr.keep Kc (fun x hx => v3 x (hws x hx)) v2.1), fun x hx => ?_⟩
    have old : x ∈ sf → Safe Z EL vm0 T'.heap x := fun hx => Safe.keep Kc (fun x hx => v3 x (hws x hx)) v2.1 (v3 x hx)
    rcases List.mem_append.mp hx with hx | hx
    · rcases hxs x hx with hx | ⟨q1, q2⟩
      · exact old hx
      · exact Safe.keep Kc (fun x hx => v3 x (hws x hx)) v2.1 (Safe.new q1)
    · exact old hx
theorem Wk.callS (A : Wk W Z a0 EL n0 h0 ws own p l e R s m args below meth c sf T h k n) (hx : p.tables.exec = Jvm.exec) {index : Nat} {y : MethodName} {bytes : ByteArray} {maxL : Nat} {ret : Option FieldType} (wl : (Cond.methodLink own index y).before a0 Z = true) (wst : (Cond.static y).before a0 Z = true) (wz : (Cond.initialized y.cls).before a0 Z = true) (wc : (Cond.code y bytes maxL ret).before a0 Z = true) (hy : y.cls ≠ "java/lang/invoke/MethodHandle" ∧ y.cls ≠ "java/lang/invoke/VarHandle")
    {g : JFrame} (hg : g.method = m) (hsize : g.locals.size = c.maxLocals) (argsL rest : List Value) (hlen : ∀ sig, parseMethodDescriptor y.desc = some sig → argsL.length = sig.parameters.length) (hs : g.stack = argsL.reverse ++ rest) {Wd kc ks : Nat} (hW : 2 * g.monitorRoom + (rest.map fun v => v.category).sum ≤ Wd) (hd : decode c.code g.pc = .ok (.invokestatic index, 3)) (hk : k + kc ≤ R.cells) (hn : n + ks ≤ R.slots)
    {Q : Option Value → Heap → List Loc → Prop} (wc' : List Addr) (hQ : ∀ v h' L, Q v h' L → Fr n0 L ∧ Keep h h' wc') (hws : ∀ x ∈ wc', x ∈ sf) (pay : ∀ vm0, Z.Warmed39 (s.setVm vm0).vm → PayN l R p e below (s.setVm vm0) args y 3 Wd argsL.toArray h kc ks Q) :
    ∃ (v : Option Value) (T' : State) (h' : Heap), (∀ xs : List Addr, (∀ x ∈ xs, x ∈ sf ∨ h.size ≤ x ∧ x < h'.size) → Wk W Z a0 EL n0 h0 ws own p l e R s m args below meth c (xs ++ sf) T' h' (k + kc) (n + ks)) ∧ Keep h h' wc' ∧ (∃ L, Q v h' L) ∧
      ∀ t, Steps p.tables e below (T'.setTop { g with pc := g.pc + 3, stack := v.toList ++ rest }) t → Steps p.tables e below (T.setTop g) t := by
  obtain ⟨vm0, locs, k0, k1, n1, bb, X, eT, S, hZ, ho, Nf, K, O, f, w1, w2⟩ := A
  obtain ⟨v, _, ⟨T', L', c', s'⟩, -, X', ⟨L, hq, l1, l2, l3⟩, st⟩ := Jvm.LawKit.callS X hx ho (mvT (s := s.setVm vm0) hZ wl) (mvT (s := s.setVm vm0) hZ wst) (mvT (s := s.setVm vm0) hZ wz) (mvT (s := s.setVm vm0) hZ wc) hy (pay vm0 hZ) hg hsize (argsL := argsL) (rest := rest) hlen hs hW hd (fun _ _ => ⟨rfl, eT, by show k1 + kc ≤ _; omega, by show n1 + ks ≤ _; omega⟩)
  dsimp only [Pt.U, Pt.locs, Pt.cells, Pt.slots] at X' hq l1 l2 l3 st
  subst l1 l2 l3
  obtain ⟨q1, q2⟩ := hQ _ _ _ hq
  exact ⟨v, T', _, Wk.after X' bb S hZ ho Nf K O f w1 w2 q1 q2 hws, q2, ⟨L, hq⟩, st⟩
theorem Wk.callI (A : Wk W Z a0 EL n0 h0 ws own p l e R s m args below meth c sf T h k n) (hx : p.tables.exec = Jvm.exec) {index : Nat} {y : MethodName} {bytes : ByteArray} {maxL : Nat} (hy1 : y.name = "<init>") (wl : (Cond.methodLink own index y).before a0 Z = true) (wi : (Cond.instanceMethod y).before a0 Z = true) (wc : (Cond.code y bytes maxL none).before a0 Z = true) (hy : y.cls ≠ "java/lang/invoke/MethodHandle" ∧ y.cls ≠ "java/lang/invoke/VarHandle")
    {g : JFrame} (hg : g.method = m) (hsize : g.locals.size = c.maxLocals) (a : Addr) (argsL rest : List Value) (hlen : ∀ sig, parseMethodDescriptor y.desc = some sig → argsL.length = sig.parameters.length) (hs : g.stack = argsL.reverse ++ .ref a :: rest) {Wd kc ks : Nat} (hW : 2 * g.monitorRoom + (rest.map fun v => v.category).sum ≤ Wd) (hd : decode c.code g.pc = .ok (.invokespecial index, 3)) (hk : k + kc ≤ R.cells) (hn : n + ks ≤ R.slots)
    {Q : Option Value → Heap → List Loc → Prop} (wc' : List Addr) (hQ : ∀ v h' L, Q v h' L → Fr n0 L ∧ Keep h h' wc') (hws : ∀ x ∈ wc', x ∈ sf) (pay : ∀ vm0, Z.Warmed39 (s.setVm vm0).vm → PayN l R p e below (s.setVm vm0) args y 3 Wd (.ref a :: argsL).toArray h kc ks Q) :
    ∃ (v : Option Value) (T' : State) (h' : Heap), (∀ xs : List Addr, (∀ x ∈ xs, x ∈ sf ∨ h.size ≤ x ∧ x < h'.size) → Wk W Z a0 EL n0 h0 ws own p l e R s m args below meth c (xs ++ sf) T' h' (k + kc) (n + ks)) ∧ Keep h h' wc' ∧ (∃ L, Q v h' L) ∧
      ∀ t, Steps p.tables e below (T'.setTop { g with pc := g.pc + 3, stack := v.toList ++ rest }) t → Steps p.tables e below (T.setTop g) t := by
  obtain ⟨vm0, locs, k0, k1, n1, bb, X, eT, S, hZ, ho, Nf, K, O, f, w1, w2⟩ := A
  obtain ⟨v, _, ⟨T', L', c', s'⟩, -, X', ⟨L, hq, l1, l2, l3⟩, st⟩ := X.specialBack hx hy1 ho (mvT (s := s.setVm vm0) hZ wl) (mvT (s := s.setVm vm0) hZ wi) (mvT (s := s.setVm vm0) hZ wc) hy (pay vm0 hZ) hg hsize (Steps.refl _) (a := a) (argsL := argsL) (rest := rest) hlen hs hW hd (fun _ _ => ⟨rfl, eT, by show k1 + kc ≤ _; omega, by show n1 + ks ≤ _; omega⟩)
  dsimp only [Pt.U, Pt.locs, Pt.cells, Pt.slots] at X' hq l1 l2 l3 st
  subst l1 l2 l3
  obtain ⟨q1, q2⟩ := hQ _ _ _ hq
  exact ⟨v, T', _, Wk.after X' bb S hZ ho Nf K O f w1 w2 q1 q2 hws, q2, ⟨L, hq⟩, fun t q => st.trans q⟩
theorem Wk.callV (A : Wk W Z a0 EL n0 h0 ws own p l e R s m args below meth c sf T h k n) (hx : p.tables.exec = Jvm.exec) {C : String} {index : Nat} {y z : MethodName} (wl : (Cond.methodLink own index y).before a0 Z = true) (wd : (Cond.declares y).before a0 Z = true) (wse : (Cond.selects C y z).before a0 Z = true) (wi : (Cond.instanceMethod z).before a0 Z = true) (nf : ∀ s' : State, Z.Warmed39 s'.vm → NotFace s' y) (hy : y.cls ≠ "java/lang/invoke/MethodHandle" ∧ y.cls ≠ "java/lang/invoke/VarHandle")
    {b : Addr} (E : Exa Z h b C) {g : JFrame} (hg : g.method = m) (hsize : g.locals.size = c.maxLocals) (argsL rest : List Value) (hlen : ∀ sig, parseMethodDescriptor y.desc = some sig → argsL.length = sig.parameters.length) (hs : g.stack = argsL.reverse ++ .ref b :: rest) {Wd kc ks : Nat} (hW : 2 * g.monitorRoom + (rest.map fun v => v.category).sum ≤ Wd) (hd : decode c.code g.pc = .ok (.invokevirtual index, 3)) (hk : k + kc ≤ R.cells) (hn : n + ks ≤ R.slots)
    {Q : Option Value → Heap → List Loc → Prop} (wc' : List Addr) (hQ : ∀ v h' L, Q v h' L → Fr n0 L ∧ Keep h h' wc') (hws : ∀ x ∈ wc', x ∈ sf) (pay : ∀ vm0, Z.Warmed39 (s.setVm vm0).vm → PayN l R p e below (s.setVm vm0) args z 3 Wd (.ref b :: argsL).toArray h kc ks Q) :
    ∃ (v : Option Value) (T' : State) (h' : Heap), (∀ xs : List Addr, (∀ x ∈ xs, x ∈ sf ∨ h.size ≤ x ∧ x < h'.size) → Wk W Z a0 EL n0 h0 ws own p l e R s m args below meth c (xs ++ sf) T' h' (k + kc) (n + ks)) ∧ Keep h h' wc' ∧ (∃ L, Q v h' L) ∧
      ∀ t, Steps p.tables e below (T'.setTop { g with pc := g.pc + 3, stack := v.toList ++ rest }) t → Steps p.tables e below (T.setTop g) t := by
  obtain ⟨vm0, locs, k0, k1, n1, bb, X, eT, S, hZ, ho, Nf, K, O, f, w1, w2⟩ := A
  obtain ⟨cq, kq, qa, qb, qc⟩ := isOf (s := s.setVm vm0) hZ eT E
  obtain ⟨v, _, ⟨T', L', c', s'⟩, -, X', ⟨L, hq, l1, l2, l3⟩, st⟩ := X.virtualBack hx ho (mvT (s := s.setVm vm0) hZ wl) (mvT (s := s.setVm vm0) hZ wd) (nf (s.setVm vm0) hZ) (mvT (s := s.setVm vm0) hZ wse) (mvT (s := s.setVm vm0) hZ wi) hy (pay vm0 hZ) qa qc hg hsize (Steps.refl _) (argsL := argsL) (rest := rest) hlen hs hW hd (fun _ _ => ⟨rfl, eT, by show k1 + kc ≤ _; omega, by show n1 + ks ≤ _; omega⟩)
  dsimp only [Pt.U, Pt.locs, Pt.cells, Pt.slots] at X' hq l1 l2 l3 st
  subst l1 l2 l3
  obtain ⟨q1, q2⟩ := hQ _ _ _ hq
  exact ⟨v, T', _, Wk.after X' bb S hZ ho Nf K O f w1 w2 q1 q2 hws, q2, ⟨L, hq⟩, fun t q => st.trans q⟩
theorem Wk.callSup (A : Wk W Z a0 EL n0 h0 ws own p l e R s m args below meth c sf T h k n) (hx : p.tables.exec = Jvm.exec) {KK : String} {index : Nat} {y : MethodName} {bytes : ByteArray} {maxL : Nat} {ret : Option FieldType} (wl : (Cond.methodLink own index y).before a0 Z = true) (wsm : (Cond.sameMethod y.cls y.cls y.name y.desc).before a0 Z = true) (wi : (Cond.instanceMethod y).before a0 Z = true) (wsu : (Cond.superclass own y.cls).before a0 Z = true) (wc : (Cond.code y bytes maxL ret).before a0 Z = true) (hn1 : y.name ≠ "<init>")
    {g : JFrame} (hg : g.method = m) (hsize : g.locals.size = c.maxLocals) {a : Addr} (F : Ins Z h a KK true) (argsL rest : List Value) (hlen : ∀ sig, parseMethodDescriptor y.desc = some sig → argsL.length = sig.parameters.length) (hs : g.stack = argsL.reverse ++ .ref a :: rest) {Wd kc ks : Nat} (hW : 2 * g.monitorRoom + (rest.map fun v => v.category).sum ≤ Wd) (hd : decode c.code g.pc = .ok (.invokespecial index, 3)) (hk : k + kc ≤ R.cells) (hn : n + ks ≤ R.slots)
    {Q : Option Value → Heap → List Loc → Prop} (wc' : List Addr) (hQ : ∀ v h' L, Q v h' L → Fr n0 L ∧ Keep h h' wc') (hws : ∀ x ∈ wc', x ∈ sf) (pay : ∀ vm0, Z.Warmed39 (s.setVm vm0).vm → PayN l R p e below (s.setVm vm0) args y 3 Wd (.ref a :: argsL).toArray h kc ks Q) :
    ∃ (v : Option Value) (T' : State) (h' : Heap), (∀ xs : List Addr, (∀ x ∈ xs, x ∈ sf ∨ h.size ≤ x ∧ x < h'.size) → Wk W Z a0 EL n0 h0 ws own p l e R s m args below meth c (xs ++ sf) T' h' (k + kc) (n + ks)) ∧ Keep h h' wc' ∧ (∃ L, Q v h' L) ∧
      ∀ t, Steps p.tables e below (T'.setTop { g with pc := g.pc + 3, stack := v.toList ++ rest }) t → Steps p.tables e below (T.setTop g) t := by
  obtain ⟨vm0, locs, k0, k1, n1, bb, X, eT, S, hZ, ho, Nf, K, O, f, w1, w2⟩ := A
  obtain ⟨v, _, ⟨T', L', c', s'⟩, -, X', ⟨L, hq, l1, l2, l3⟩, st⟩ := RoadKit.superBack X hx hZ ho wl wsm wi wsu hn1 (pay vm0 hZ) eT F hg hsize wc (argsL := argsL) (rest := rest) hlen hs hW hd (fun _ _ => ⟨rfl, eT, by show k1 + kc ≤ _; omega, by show n1 + ks ≤ _; omega⟩)
  dsimp only [Pt.U, Pt.locs, Pt.cells, Pt.slots] at X' hq l1 l2 l3 st
  subst l1 l2 l3
  obtain ⟨q1, q2⟩ := hQ _ _ _ hq
  exact ⟨v, T', _, Wk.after X' bb S hZ ho Nf K O f w1 w2 q1 q2 hws, q2, ⟨L, hq⟩, fun t q => st.trans q⟩
theorem Wk.copy (A : Wk W Z a0 EL n0 h0 ws own p l e R s m args below meth c sf T h k n) (hx : p.tables.exec = Jvm.exec) {index : Nat} (wl : (Cond.methodLink own index Jvm.Stand.acN).before a0 Z = true) (wn : (Cond.native Jvm.Stand.acN).before a0 Z = true) (wst : (Cond.static Jvm.Stand.acN).before a0 Z = true) (wz : (Cond.initialized "java/lang/System").before a0 Z = true)
    {a b : Addr} {ka kb : ClassId} {ty : FieldType} {z z' sp dp nn : Int32} {vs vd us : List Value} {dv dd : Value} (Va : Arv Z h a ka ty z vs dv) (Vb : Arv Z h b kb ty z' vd dd) (hty : refKind ty = false) (h1 : ¬ sp < 0) (h2 : ¬ dp < 0) (h3 : ¬ nn < 0) (h4 : sp.toNatClampNeg + nn.toNatClampNeg ≤ z.toNatClampNeg) (h5 : dp.toNatClampNeg + nn.toNatClampNeg ≤ z'.toNatClampNeg)
    (hus : us = (List.range nn.toNatClampNeg).map fun i => vs.getD (sp.toNatClampNeg + i) dv) (hl : dp.toNatClampNeg + nn.toNatClampNeg ≤ vd.length) (hb : b ∈ sf)
    {g : JFrame} (hg : g.method = m) (hsize : g.locals.size = c.maxLocals) {rest : List Value} (hs : g.stack = .int nn :: .int dp :: .ref b :: .int sp :: .ref a :: rest) (hd : decode c.code g.pc = .ok (.invokestatic index, 3))
    (hf : 1 ≤ R.frames) {Wd : Nat} (hW : 2 * g.monitorRoom + (rest.map fun v => v.category).sum ≤ Wd) (hlo : Wd + (nativeFrameWords "java/lang/System" "arraycopy" 5 + 11) ≤ R.locals) :
    ∃ (T' : State) (h' : Heap), Wk W Z a0 EL n0 h0 ws own p l e R s m args below meth c sf T' h' k n ∧ Keep h h' [b] ∧ Arv Z h' b kb ty z' (vd.take dp.toNatClampNeg ++ us ++ vd.drop (dp.toNatClampNeg + nn.toNatClampNeg)) dd ∧
      ∀ t, Steps p.tables e below (T'.setTop { g with pc := g.pc + 3, stack := rest }) t → Steps p.tables e below (T.setTop g) t := by
  obtain ⟨vm0, locs, k0, k1, n1, bb, X, eT, S, hZ, ho, Nf, K, O, f, w1, w2⟩ := A
  obtain ⟨T', h', L, X', e', N', Kc, V', st⟩ := RoadKit.cpA X hx hZ ho wl wn wst wz eT Va Vb (Or.inl ⟨rfl, hty⟩) h1 h2 h3 h4 h5 hus hl Nf (f b hb).1 hg hsize hs hd hf hW hlo
  have hws : ∀ x ∈ [b], x ∈ sf := allS hb all0
  refine ⟨T', h', ⟨vm0, L, k0, k1, n1, bb, X', e', ⟨S.1, Nat.le_trans S.2 Kc.1⟩, hZ, ho, N', K.trans Kc fun x hx => (f x (hws x hx)).2.1, O.keep Kc fun x hx => (f x (hws x hx)).1, fun x hx => ⟨(f x hx).1, (f x hx).2.1, Nat.lt_of_lt_of_le (f x hx).2.2 Kc.1⟩, w1, fun ew => ?_⟩, Kc, V', st⟩
  obtain ⟨v1, v2, v3⟩ := w2 ew
  exact ⟨v1, v2.trans (CHr.keep Kc (fun x hx => v3 x (hws x hx)) v2.1), fun x hx => Safe.keep Kc (fun x hx => v3 x (hws x hx)) v2.1 (v3 x hx)⟩
/-! contracts -/
abbrev EndN (s : State) (h0 : Heap) (ws : List Addr) (n0 : Nat) (rm : Room) (Q : Option Value → Heap → Prop) (o : Outcome) (u : State) : Prop :=
  ∃ v L, o = .returned v ∧ (Q v u.heap ∧ Fr n0 L ∧ Keep h0 u.heap ws) ∧ FrameEnd s o u L rm.cells rm.slots
abbrev CtrN (l : Launch) (Z : State) (y : MethodName) (bytes : ByteArray) (maxL : Nat) (ret : Option FieldType) (tb : List Cond) (rm : Room) (as : Array Value) (h0 : Heap) (ws : List Addr) (n0 : Nat) (Q : Option Value → Heap → Prop) : Prop :=
  MetFree l y (head1 (Cond.code y bytes maxL ret :: tb) rm) (fun a U => a = as ∧ Z.Warmed39 U.vm ∧ U.heap = h0) (fun _ _ _ _ _ => True) (fun _ U o U' => ∃ v L, o = .returned v ∧ (Q v U'.heap ∧ Fr n0 L ∧ Keep h0 U'.heap ws) ∧ FrameEnd U o U' L rm.cells rm.slots)
theorem enterN {y : MethodName} {bytes : ByteArray} {maxL : Nat} {ret : Option FieldType} {tb : List Cond} {rm : Room} {as : Array Value} {Q : Option Value → Heap → Prop} (hp : plainFor y = true) (hO : Old Z n0 h0) (hsf : ∀ x ∈ ws, n0 ≤ x ∧ x < h0.size)
    (body : ∀ (p : Program) (e : Env) (s : State) (m : MethodId) (below : List Frame) (meth : Method) (c : Code) (T : State), p.tables.exec = Jvm.exec → c.code = bytes → c.maxLocals = maxL → meth.sig.returnType = ret → meth.name = y.name → meth.locks = false →
      Wk false Z a0 [] n0 h0 ws y.cls p l e rm s m as below meth c ws T h0 0 0 → Run p.tables e below (EndN s h0 ws n0 rm Q) (T.setTop (entryFrame m as maxL))) : CtrN l Z y bytes maxL ret tb rm as h0 ws n0 Q := by
  refine MetFree.of_bodySF hp hisR ?_
  intro p e s m args below meth c s₁ Bd hml0 hP hK
  obtain ⟨rfl, hZ, hh⟩ := hP
  have X0 := Stand.of_body Bd
  have e0 : s₁.heap = h0 := by rw [← hh, Bd.state]; rfl
  exact body p e s m below meth c s₁ Bd.exec Bd.bytes hml0 Bd.returns (name_of_methodNamed Bd.named Bd.method).1 Bd.notSynchronized ⟨s.vm, [], 0, 0, 0, ⟨Nat.le_refl _, Nat.le_refl _⟩, X0, e0, ⟨(State.WarmedH.refl s).since 0, Nat.zero_le _⟩, hZ, findClass_of_methodNamed Bd.named, Fr.nil _, Keep.refl _ _, hO, fun x hx => ⟨(hsf x hx).1, Or.inl hx, (hsf x hx).2⟩, fun _ => rfl, fun q => by cases q⟩
theorem Wk.leaveN (A : Wk false Z a0 EL n0 h0 ws own p l e R s m args below meth c sf T h k n) (hlk : meth.locks = false) {rm : Room} {Q : Option Value → Heap → Prop} {g : JFrame} (v : Option Value) (hv : meth.sig.returnType = none → v = none) (hk : k ≤ rm.cells) (hn : n ≤ rm.slots) (hq : Q v h)
    (hret : ∀ {s' : State} {locs : List Loc} {k' n' : Nat} {fs : List Frame}, Stand p l e R s' m args below meth c T locs k' n' → (∀ (f : JFrame) (acts : List Action), f.method = m → f.locked = none → f.entered = [] → (doReturn e (T.setTop f) acts v).1 = T.setFrames fs) → Steps p.tables e below (T.setTop g) (T.setFrames fs)) :
    Run p.tables e below (EndN s h0 ws n0 rm Q) (T.setTop g) := by
  obtain ⟨vm0, locs, k0, k1, n1, ⟨b1, b2⟩, X, eT, S, hZ, ho, Nf, K, O, f, w1, w2⟩ := A
  cases w1 rfl
  obtain ⟨fs, hr, hrun, hended, hW, hsame⟩ := X.leave (v := v) hv hlk
  refine ⟨_, _, hret X hr, hrun, hended, _, _, rfl, ⟨?_, Nf, ?_⟩, ⟨_, rfl⟩, hW, hsame.mono (by omega) (by omega)⟩
  · show Q v T.heap; rw [eT]; exact hq
  · show Keep h0 T.heap ws; rw [eT]; exact K
theorem payN {y : MethodName} {bytes : ByteArray} {maxL : Nat} {ret : Option FieldType} {rm : Room} {as : Array Value} {Q : Option Value → Heap → Prop} {len Wd : Nat} (M : CtrN l Z y bytes maxL ret [] rm as h ws n0 Q) (wc : (Cond.code y bytes maxL ret).before a0 Z = true) (wz : (Cond.initialized y.cls).before a0 Z = true) (hf : rm.frames + 1 ≤ R.frames) (hl : Wd + (maxL + 11) + rm.locals ≤ R.locals) {vm0 : Vm} (hZ : Z.Warmed39 (s.setVm vm0).vm) :
    PayN l R p e below (s.setVm vm0) args y len Wd as h rm.cells rm.slots (fun v h' L => Q v h' ∧ Fr n0 L ∧ Keep h h' ws) := backOf (Q := fun v h' L => Q v h' ∧ Fr n0 L ∧ Keep h h' ws) M hZ wc wz hf hl
/-! contracts of bodies that may intern -/
abbrev EndW (Z : State) (EL : List (String × Nat)) (s : State) (h0 : Heap) (ws : List Addr) (n0 : Nat) (rm : Room) (Q : Option Value → Heap → Prop) (o : Outcome) (u : State) : Prop :=
  ∃ v L, o = .returned v ∧ (Q v u.heap ∧ Fr n0 L ∧ Keep h0 u.heap ws) ∧ CHr Z EL s.vm s.heap u.vm u.heap ∧ ReturnedEndW s o u L rm.cells rm.slots
abbrev CtrW (l : Launch) (Z : State) (EL : List (String × Nat)) (y : MethodName) (bytes : ByteArray) (maxL : Nat) (ret : Option FieldType) (tb : List Cond) (rm : Room) (as : Array Value) (h0 : Heap) (ws : List Addr) (n0 : Nat) (Q : Option Value → Heap → Prop) : Prop :=
  MetFree l y (head1 (Cond.code y bytes maxL ret :: tb) rm) (fun a U => a = as ∧ Z.Warmed39 U.vm ∧ U.heap = h0 ∧ CHv Z EL U.vm h0 ∧ ∀ x ∈ ws, Safe Z EL U.vm h0 x) (fun _ _ _ _ _ => True) (fun _ U o U' => ∃ v L, o = .returned v ∧ (Q v U'.heap ∧ Fr n0 L ∧ Keep h0 U'.heap ws) ∧ CHr Z EL U.vm U.heap U'.vm U'.heap ∧ ReturnedEndW U o U' L rm.cells rm.slots)
theorem enterW {y : MethodName} {bytes : ByteArray} {maxL : Nat} {ret : Option FieldType} {tb : List Cond} {rm : Room} {as : Array Value} {Q : Option Value → Heap → Prop} (hp : plainFor y = true) (hEL : EW Z a0 EL) (hO : Old Z n0 h0) (hsf : ∀ x ∈ ws, n0 ≤ x ∧ x < h0.size)
    (body : ∀ (p : Program) (e : Env) (s : State) (m : MethodId) (below : List Frame) (meth : Method) (c : Code) (T : State), p.tables.exec = Jvm.exec → c.code = bytes → c.maxLocals = maxL → meth.sig.returnType = ret → meth.name = y.name → meth.locks = false → s.heap = h0 →
      Wk true Z a0 EL n0 h0 ws y.cls p l e rm s m as below meth c ws T h0 0 0 → Run p.tables e below (EndW Z EL s h0 ws n0 rm Q) (T.setTop (entryFrame m as maxL))) : CtrW l Z EL y bytes maxL ret tb rm as h0 ws n0 Q := by
  refine MetFree.of_bodySF hp hisR ?_
  intro p e s m args below meth c s₁ Bd hml0 hP hK
  obtain ⟨rfl, hZ, hh, hC, hSf⟩ := hP
  have X0 := Stand.of_body Bd
  have e0 : s₁.heap = h0 := by rw [← hh, Bd.state]; rfl
  exact body p e s m below meth c s₁ Bd.exec Bd.bytes hml0 Bd.returns (name_of_methodNamed Bd.named Bd.method).1 Bd.notSynchronized hh ⟨s.vm, [], 0, 0, 0, ⟨Nat.le_refl _, Nat.le_refl _⟩, X0, e0, ⟨(State.WarmedH.refl s).since 0, Nat.zero_le _⟩, hZ, findClass_of_methodNamed Bd.named, Fr.nil _, Keep.refl _ _, hO, fun x hx => ⟨(hsf x hx).1, Or.inl hx, (hsf x hx).2⟩, fun _ => rfl, fun _ => ⟨hEL, CHr.refl hC, hSf⟩⟩
theorem Wk.leaveW (A : Wk true Z a0 EL n0 h0 ws own p l e R s m args below meth c sf T h k n) (hlk : meth.locks = false) (hh : s.heap = h0) {rm : Room} {Q : Option Value → Heap → Prop} {g : JFrame} (v : Option Value) (hv : meth.sig.returnType = none → v = none) (hk : k ≤ rm.cells) (hn : n ≤ rm.slots) (hq : Q v h)
    (hret : ∀ {s' : State} {locs : List Loc} {k' n' : Nat} {fs : List Frame}, Stand p l e R s' m args below meth c T locs k' n' → (∀ (f : JFrame) (acts : List Action), f.method = m → f.locked = none → f.entered = [] → (doReturn e (T.setTop f) acts v).1 = T.setFrames fs) → Steps p.tables e below (T.setTop g) (T.setFrames fs)) :
    Run p.tables e below (EndW Z EL s h0 ws n0 rm Q) (T.setTop g) := by
  obtain ⟨vm0, locs, k0, k1, n1, ⟨b1, b2⟩, X, eT, ⟨S, S0⟩, hZ, ho, Nf, K, O, f, w1, w2⟩ := A
  obtain ⟨v1, v2, v3⟩ := w2 rfl
  obtain ⟨fs, hr, hrun, hended, r1, r2, r3, r4⟩ := X.leaveW S (by rw [eT]; exact S0) (v := v) hv hlk
  refine ⟨_, _, hret X hr, hrun, hended, _, _, rfl, ⟨?_, Nf, ?_⟩, ?_, r1, r2, r3, r4.mono (by omega) (by omega)⟩
  · show Q v T.heap; rw [eT]; exact hq
  · show Keep h0 T.heap ws; rw [eT]; exact K
  · show CHr Z EL s.vm s.heap T.vm T.heap
    rw [eT, hh]; exact v2.trans (CHv.at X hZ v1 v2.1)
theorem payW {y : MethodName} {bytes : ByteArray} {maxL : Nat} {ret : Option FieldType} {rm : Room} {as : Array Value} {Q : Option Value → Heap → Prop} {len Wd : Nat} (M : CtrW l Z EL y bytes maxL ret [] rm as h ws n0 Q) (wc : (Cond.code y bytes maxL ret).before a0 Z = true) (wz : (Cond.initialized y.cls).before a0 Z = true) (hf : rm.frames + 1 ≤ R.frames) (hl : Wd + (maxL + 11) + rm.locals ≤ R.locals) {vm0 : Vm} (hZ : Z.Warmed39 vm0) (hEL : EW Z a0 EL) (H : CHv Z EL vm0 h) (hsf : ∀ x ∈ ws, x < h.size ∧ Safe Z EL vm0 h x) :
    PayW Z EL l R p e below s vm0 args y len Wd as h rm.cells rm.slots (fun v h' L => Q v h' ∧ Fr n0 L ∧ Keep h h' ws) :=
  BackS.of_freeW (bytes := bytes) (maxL := maxL) (ret := ret) (E := fun _ first o t L k n => k = rm.cells ∧ n = rm.slots ∧ (∃ v, o = .returned v ∧ (Q v t.heap ∧ Fr n0 L ∧ Keep h t.heap ws)) ∧ CHr Z EL first.vm first.heap t.vm t.heap) M hf hl
    (fun m meth c A a Y hp => have hU : Z.Warmed39 A.U.vm := wtrans (s := s.setVm vm0) hZ Y.warmed
      ⟨by show (Cond.and _ .tt).before a A.U = true; rw [Cond.before_and, mv hU wc]; rfl, mv hU wc, mv hU wz, hp.2.2.1, hp.2.2.2⟩)
    (fun m meth c A a g mk Y hp => ⟨hp.1, wtrans (s := s.setVm vm0) hZ Y.warmed, hp.2.1, (CHv.at Y hZ hEL H).1, fun x hx => (CHv.at Y hZ hEL H).safe (hsf x hx).1 (hsf x hx).2⟩) (fun _ _ _ _ _ _ _ _ _ => trivial)
    (fun _ _ _ _ ⟨v, L, q1, q2, q3, q4⟩ => ⟨L, _, _, q4, rfl, rfl, ⟨v, q1, q2⟩, q3⟩)
    (fun m meth c A a g mk v t L k n Y hp _ _ ⟨e1, e2, ⟨v', e3, e4⟩, e5⟩ => by
      cases e3; subst e1 e2
      refine ⟨L, e4, rfl, rfl, rfl, (CHv.at Y hZ hEL H).trans ?_⟩
      rw [← hp.2.1]; exact e5)
/-- behind a call that may have interned -/
theorem Wk.afterW {kc ks : Nat} {T' : State} {L locs : List Loc} {vm0 : Vm} {k0 k1 n1 : Nat} {wc : List Addr} (eT : T.heap = h) (X' : Stand p l e R ((s.setVm vm0).setVm T'.vm) m args below meth c T' (locs ++ L) (k1 + kc) (n1 + ks)) (S2 : (s.setVm vm0).Since T'.vm T'.heap.size) (gr : T.heap.size ≤ T'.heap.size) (C2 : CHr Z EL vm0 h T'.vm T'.heap)
    (b : k1 ≤ k ∧ n1 ≤ n) (S : s.Since vm0 k0 ∧ k0 ≤ h.size) (hZ : Z.Warmed39 vm0) (ho : vm0.findClass own = some m.cls) (N : Fr n0 locs) (K : Keep h0 h ws) (O : Old Z n0 h) (f : ∀ x ∈ sf, n0 ≤ x ∧ (x ∈ ws ∨ h0.size ≤ x) ∧ x < h.size) (w2 : EW Z a0 EL ∧ CHr Z EL s.vm h0 vm0 h ∧ ∀ x ∈ sf, Safe Z EL vm0 h x)
    (NL : Fr n0 L) (Kc : Keep h T'.heap wc) (hws : ∀ x ∈ wc, x ∈ sf) :
    Wk true Z a0 EL n0 h0 ws own p l e R s m args below meth c sf T' T'.heap (k + kc) (n + ks) := by
  obtain ⟨v1, v2, v3⟩ := w2
  obtain ⟨X1, S1, hZ1, ho1⟩ := rebS S.1 S.2 X' S2 (by rw [← eT]; exact gr) hZ ho
  refine ⟨T'.vm, _, _, _, _, ⟨by omega, by omega⟩, X1, rfl, ⟨S1, Nat.le_refl _⟩, hZ1, ho1, Fr.app N NL, K.trans Kc fun x hx => (f x (hws x hx)).2.1, O.keep Kc fun x hx => (f x (hws x hx)).1, fun x hx => ⟨(f x hx).1, (f x hx).2.1, Nat.lt_of_lt_of_le (f x hx).2.2 Kc.1⟩, (fun q => by cases q), fun _ => ⟨v1, v2.trans C2, fun x hx => C2.safe (f x hx).2.2 (v3 x hx)⟩⟩
theorem Wk.callSW (A : Wk true Z a0 EL n0 h0 ws own p l e R s m args below meth c sf T h k n) (hx : p.tables.exec = Jvm.exec) {index : Nat} {y : MethodName} {bytes : ByteArray} {maxL : Nat} {ret : Option FieldType} (wl : (Cond.methodLink own index y).before a0 Z = true) (wst : (Cond.static y).before a0 Z = true) (wz : (Cond.initialized y.cls).before a0 Z = true) (wc : (Cond.code y bytes maxL ret).before a0 Z = true) (hy : y.cls ≠ "java/lang/invoke/MethodHandle" ∧ y.cls ≠ "java/lang/invoke/VarHandle")
    {g : JFrame} (hg : g.method = m) (hsize : g.locals.size = c.maxLocals) (argsL rest : List Value) (hlen : ∀ sig, parseMethodDescriptor y.desc = some sig → argsL.length = sig.parameters.length) (hs : g.stack = argsL.reverse ++ rest) {Wd kc ks : Nat} (hW : 2 * g.monitorRoom + (rest.map fun v => v.category).sum ≤ Wd) (hd : decode c.code g.pc = .ok (.invokestatic index, 3)) (hk : k + kc ≤ R.cells) (hn : n + ks ≤ R.slots)
    {Q : Option Value → Heap → List Loc → Prop} (wc' : List Addr) (hQ : ∀ v h' L, Q v h' L → Fr n0 L ∧ Keep h h' wc') (hws : ∀ x ∈ wc', x ∈ sf) (pay : ∀ vm0, Z.Warmed39 vm0 → EW Z a0 EL → CHv Z EL vm0 h → (∀ x ∈ wc', x < h.size ∧ Safe Z EL vm0 h x) → PayW Z EL l R p e below s vm0 args y 3 Wd argsL.toArray h kc ks Q) :
    ∃ (v : Option Value) (T' : State) (h' : Heap), Wk true Z a0 EL n0 h0 ws own p l e R s m args below meth c sf T' h' (k + kc) (n + ks) ∧ Keep h h' wc' ∧ (∃ L, Q v h' L) ∧
      ∀ t, Steps p.tables e below (T'.setTop { g with pc := g.pc + 3, stack := v.toList ++ rest }) t → Steps p.tables e below (T.setTop g) t := by
  obtain ⟨vm0, locs, k0, k1, n1, bb, X, eT, S, hZ, ho, Nf, K, O, f, w1, w2⟩ := A
  obtain ⟨v, _, ⟨T', L', c', s'⟩, -, X', S2, gr, ⟨L, hq, l1, l2, l3, C2⟩, st⟩ := RoadKit.callSS X hx ho (mvT (s := s.setVm vm0) hZ wl) (mvT (s := s.setVm vm0) hZ wst) (mvT (s := s.setVm vm0) hZ wz) (mvT (s := s.setVm vm0) hZ wc) hy (pay vm0 hZ (w2 rfl).1 (w2 rfl).2.1.1 fun x hx => ⟨(f x (hws x hx)).2.2, (w2 rfl).2.2 x (hws x hx)⟩) hg hsize (argsL := argsL) (rest := rest) hlen hs hW hd (fun _ _ => ⟨rfl, eT, by show k1 + kc ≤ _; omega, by show n1 + ks ≤ _; omega⟩)
  dsimp only [Pt.U, Pt.locs, Pt.cells, Pt.slots] at X' hq l1 l2 l3 st S2 gr C2
  subst l1 l2 l3
  obtain ⟨q1, q2⟩ := hQ _ _ _ hq
  exact ⟨v, T', _, Wk.afterW eT X' S2 gr C2 bb S hZ ho Nf K O f (w2 rfl) q1 q2 hws, q2, ⟨L, hq⟩, fun t q => st.trans q⟩
theorem Wk.callIW (A : Wk true Z a0 EL n0 h0 ws own p l e R s m args below meth c sf T h k n) (hx : p.tables.exec = Jvm.exec) {index : Nat} {y : MethodName} {bytes : ByteArray} {maxL : Nat} (hy1 : y.name = "<init>") (wl : (Cond.methodLink own index y).before a0 Z = true) (wi : (Cond.instanceMethod y).before a0 Z = true) (wc : (Cond.code y bytes maxL none).before a0 Z = true) (hy : y.cls ≠ "java/lang/invoke/MethodHandle" ∧ y.cls ≠ "java/lang/invoke/VarHandle")
    {g : JFrame} (hg : g.method = m) (hsize : g.locals.size = c.maxLocals) (a : Addr) (argsL rest : List Value) (hlen : ∀ sig, parseMethodDescriptor y.desc = some sig → argsL.length = sig.parameters.length) (hs : g.stack = argsL.reverse ++ .ref a :: rest) {Wd kc ks : Nat} (hW : 2 * g.monitorRoom + (rest.map fun v => v.category).sum ≤ Wd) (hd : decode c.code g.pc = .ok (.invokespecial index, 3)) (hk : k + kc ≤ R.cells) (hn : n + ks ≤ R.slots)
    {Q : Option Value → Heap → List Loc → Prop} (wc' : List Addr) (hQ : ∀ v h' L, Q v h' L → Fr n0 L ∧ Keep h h' wc') (hws : ∀ x ∈ wc', x ∈ sf) (pay : ∀ vm0, Z.Warmed39 vm0 → EW Z a0 EL → CHv Z EL vm0 h → (∀ x ∈ wc', x < h.size ∧ Safe Z EL vm0 h x) → PayW Z EL l R p e below s vm0 args y 3 Wd (.ref a :: argsL).toArray h kc ks Q) :
    ∃ (v : Option Value) (T' : State) (h' : Heap), Wk true Z a0 EL n0 h0 ws own p l e R s m args below meth c sf T' h' (k + kc) (n + ks) ∧ Keep h h' wc' ∧ (∃ L, Q v h' L) ∧
      ∀ t, Steps p.tables e below (T'.setTop { g with pc := g.pc + 3, stack := v.toList ++ rest }) t → Steps p.tables e below (T.setTop g) t := by
  obtain ⟨vm0, locs, k0, k1, n1, bb, X, eT, S, hZ, ho, Nf, K, O, f, w1, w2⟩ := A
  obtain ⟨v, _, ⟨T', L', c', s'⟩, -, X', S2, gr, ⟨L, hq, l1, l2, l3, C2⟩, st⟩ := X.specialBackS hx hy1 ho (mvT (s := s.setVm vm0) hZ wl) (mvT (s := s.setVm vm0) hZ wi) (mvT (s := s.setVm vm0) hZ wc) hy (pay vm0 hZ (w2 rfl).1 (w2 rfl).2.1.1 fun x hx => ⟨(f x (hws x hx)).2.2, (w2 rfl).2.2 x (hws x hx)⟩) hg hsize (Steps.refl _) (a := a) (argsL := argsL) (rest := rest) hlen hs hW hd (fun _ _ => ⟨rfl, eT, by show k1 + kc ≤ _; omega, by show n1 + ks ≤ _; omega⟩)
  dsimp only [Pt.U, Pt.locs, Pt.cells, Pt.slots] at X' hq l1 l2 l3 st S2 gr C2
  subst l1 l2 l3
  obtain ⟨q1, q2⟩ := hQ _ _ _ hq
  exact ⟨v, T', _, Wk.afterW eT X' S2 gr C2 bb S hZ ho Nf K O f (w2 rfl) q1 q2 hws, q2, ⟨L, hq⟩, fun t q => st.trans q⟩
theorem Wk.callVW (A : Wk true Z a0 EL n0 h0 ws own p l e R s m args below meth c sf T h k n) (hx : p.tables.exec = Jvm.exec) {C : String} {index : Nat} {y z : MethodName} (wl : (Cond.methodLink own index y).before a0 Z = true) (wd : (Cond.declares y).before a0 Z = true) (wse : (Cond.selects C y z).before a0 Z = true) (wi : (Cond.instanceMethod z).before a0 Z = true) (nf : ∀ s' : State, Z.Warmed39 s'.vm → NotFace s' y) (hy : y.cls ≠ "java/lang/invoke/MethodHandle" ∧ y.cls ≠ "java/lang/invoke/VarHandle")
    {b : Addr} (E : Exa Z h b C) {g : JFrame} (hg : g.method = m) (hsize : g.locals.size = c.maxLocals) (argsL rest : List Value) (hlen : ∀ sig, parseMethodDescriptor y.desc = some sig → argsL.length = sig.parameters.length) (hs : g.stack = argsL.reverse ++ .ref b :: rest) {Wd kc ks : Nat} (hW : 2 * g.monitorRoom + (rest.map fun v => v.category).sum ≤ Wd) (hd : decode c.code g.pc = .ok (.invokevirtual index, 3)) (hk : k + kc ≤ R.cells) (hn : n + ks ≤ R.slots)
    {Q : Option Value → Heap → List Loc → Prop} (wc' : List Addr) (hQ : ∀ v h' L, Q v h' L → Fr n0 L ∧ Keep h h' wc') (hws : ∀ x ∈ wc', x ∈ sf) (pay : ∀ vm0, Z.Warmed39 vm0 → EW Z a0 EL → CHv Z EL vm0 h → (∀ x ∈ wc', x < h.size ∧ Safe Z EL vm0 h x) → PayW Z EL l R p e below s vm0 args z 3 Wd (.ref b :: argsL).toArray h kc ks Q) :
    ∃ (v : Option Value) (T' : State) (h' : Heap), Wk true Z a0 EL n0 h0 ws own p l e R s m args below meth c sf T' h' (k + kc) (n + ks) ∧ Keep h h' wc' ∧ (∃ L, Q v h' L) ∧
      ∀ t, Steps p.tables e below (T'.setTop { g with pc := g.pc + 3, stack := v.toList ++ rest }) t → Steps p.tables e below (T.setTop g) t := by
  obtain ⟨vm0, locs, k0, k1, n1, bb, X, eT, S, hZ, ho, Nf, K, O, f, w1, w2⟩ := A
  obtain ⟨cq, kq, qa, qb, qc⟩ := isOf (s := s.setVm vm0) hZ eT E
  obtain ⟨v, _, ⟨T', L', c', s'⟩, -, X', S2, gr, ⟨L, hq, l1, l2, l3, C2⟩, st⟩ := X.virtualBackS hx ho (mvT (s := s.setVm vm0) hZ wl) (mvT (s := s.setVm vm0) hZ wd) (nf (s.setVm vm0) hZ) (mvT (s := s.setVm vm0) hZ wse) (mvT (s := s.setVm vm0) hZ wi) hy (pay vm0 hZ (w2 rfl).1 (w2 rfl).2.1.1 fun x hx => ⟨(f x (hws x hx)).2.2, (w2 rfl).2.2 x (hws x hx)⟩) qa qc hg hsize (Steps.refl _) (argsL := argsL) (rest := rest) hlen hs hW hd (fun _ _ => ⟨rfl, eT, by show k1 + kc ≤ _; omega, by show n1 + ks ≤ _; omega⟩)
  dsimp only [Pt.U, Pt.locs, Pt.cells, Pt.slots] at X' hq l1 l2 l3 st S2 gr C2
  subst l1 l2 l3
  obtain ⟨q1, q2⟩ := hQ _ _ _ hq
  exact ⟨v, T', _, Wk.afterW eT X' S2 gr C2 bb S hZ ho Nf K O f (w2 rfl) q1 q2 hws, q2, ⟨L, hq⟩, fun t q => st.trans q⟩
theorem Wk.ldc (A : Wk true Z a0 EL n0 h0 ws own p l e R s m args below meth c sf T h k n) (hx : p.tables.exec = Jvm.exec) {text : String} {index : Nat} (w : (Cond.stringLink own index text).before a0 Z = true) (wS : ∀ a ∈ Bundle.stringAtoms, a.before a0 Z = true) (hmem : (own, index) ∈ EL) {vs : List Value} {z : Int32} (ht : (∀ c ∈ text.toList, c.toNat < 256) ∧ text.toList.map (fun c => Value.int (Jvm.Lit.byteI c.toNat.toUInt16)) = vs) (hz : ¬ z < 0) (hl : z.toNatClampNeg = vs.length)
    {g : JFrame} (hg : g.method = m) (hd : decode c.code g.pc = .ok (.ldc index, 2)) {q : Nat} (hn : 4 * text.toList.length ≤ q) (hbig : q ≤ 536870912) (hc : k + 2 ≤ R.cells) (hl' : n + (q + 4) ≤ R.slots) :
    ∃ (a b : Addr) (kb : ClassId) (T' : State) (h' : Heap), Wk true Z a0 EL n0 h0 ws own p l e R s m args below meth c sf T' h' (k + 2) (n + (q + 4)) ∧ Ext h h' ∧ Exa Z h' a "java/lang/String" ∧ Fld Z h' a "java/lang/String" "coder" "B" (.int 0) ∧ Fld Z h' a "java/lang/String" "value" "[B" (.ref b) ∧ Arv Z h' b kb .byte z vs (.int 0) ∧ (∀ x ∈ sf, x ≠ a ∧ x ≠ b) ∧
      ∀ t, Steps p.tables e below (T'.setTop { g with pc := g.pc + 2, stack := .ref a :: g.stack }) t → Steps p.tables e below (T.setTop g) t := by
  obtain ⟨vm0, locs, k0, k1, n1, ⟨b1, b2⟩, X, eT, S, hZ, ho, Nf, K, O, f, w1, w2⟩ := A
  obtain ⟨v1, v2, v3⟩ := w2 rfl
  obtain ⟨a, T', h', k2, b, kb, X', e', E, S', hk', hZ', ho', E1, E2, E3, E4, -, -, C2, -, ne, st⟩ := RoadKit.ldcCH X hx hZ ho w wS eT S.1 S.2 v1 hmem v2.1 ht hz hl hg hd hn hbig (by omega) (by omega)
  refine ⟨a, b, kb, T', h', ⟨T'.vm, locs, k2, _, _, ⟨by omega, by omega⟩, X', e', ⟨S', hk'⟩, hZ', ho', Nf, K.ext E, O.ext E, fun x hx => ⟨(f x hx).1, (f x hx).2.1, Nat.lt_of_lt_of_le (f x hx).2.2 E.1⟩, (fun q => by cases q), fun _ => ⟨v1, v2.trans C2, fun x hx => C2.safe (f x hx).2.2 (v3 x hx)⟩⟩, E, E1, E2, E3, E4, fun x hx => ne x (C2.safe (f x hx).2.2 (v3 x hx)), st⟩
end Kit
end Jvm.OwnKit
@@BLOCK:LamKit.lean.txt@@
namespace Jvm.OwnKit
open Sem ClassFile Op Lib Jvm.Stand Jvm.Free Jvm.LawKit Jvm.RoadKit Jvm.Lambda
/-! arrays of references, interfaces, floats of the pool -/
section Map
variable {W : Bool} {Z : State} {a0 : Array Value} {EL : List (String × Nat)} {n0 : Nat} {h0 : Heap} {ws : List Addr} {own : String} {p : Program} {l : Launch} {e : Env} {R : Room} {s : State} {m : MethodId} {args : Array Value} {below : List Frame} {meth : Method} {c : Code} {sf : List Addr} {T : State} {h : Heap} {k n : Nat}
theorem Wk.ldcF (A : Wk W Z a0 EL n0 h0 ws own p l e R s m args below meth c sf T h k n) (hx : p.tables.exec = Jvm.exec) {index : Nat} {v : UInt32} (w : (Cond.constantFloat own index v).before a0 Z = true) {g : JFrame} (hg : g.method = m) (hd : decode c.code g.pc = .ok (.ldc index, 2)) :
    ∀ t, Steps p.tables e below (T.setTop { g with pc := g.pc + 2, stack := .float v :: g.stack }) t → Steps p.tables e below (T.setTop g) t := by
  obtain ⟨vm0, locs, k0, k1, n1, bb, X, eT, S, hZ, ho, Nf, K, O, f, w1, w2⟩ := A
  exact X.ldcFloatC hx ho (mvT (s := s.setVm vm0) hZ w) hg hd
theorem Wk.newR (A : Wk W Z a0 EL n0 h0 ws own p l e R s m args below meth c sf T h k n) (hx : p.tables.exec = Jvm.exec) {C : String} {index : Nat} (w : (Cond.classLink own index C).before a0 Z = true) (w' : (Cond.arrayOver (.object C)).before a0 Z = true)
    {g : JFrame} (hg : g.method = m) (hd : decode c.code g.pc = .ok (.anewarray index, 3)) {N : Int32} {rest : List Value} (hs : g.stack = .int N :: rest) (hn : ¬ N < 0) {cap : Nat} (hcap : N.toNatClampNeg ≤ cap) (hb : cap * 8 ≤ 536870912) (hc : k + 1 ≤ R.cells) (hl : n + cap ≤ R.slots) :
    ∃ (a : Addr) (T' : State) (h' : Heap) (kA : ClassId), Wk W Z a0 EL n0 h0 ws own p l e R s m args below meth c (a :: sf) T' h' (k + 1) (n + cap) ∧ Ext h h' ∧ h.size = a ∧ Arv Z h' a kA (.object C) N (List.replicate cap .null) .null ∧ Ovr Z kA C ∧
      ∀ t, Steps p.tables e below (T'.setTop { g with pc := g.pc + 3, stack := .ref a :: rest }) t → Steps p.tables e below (T.setTop g) t := by
  obtain ⟨vm0, locs, k0, k1, n1, ⟨b1, b2⟩, X, eT, ⟨S, S0⟩, hZ, ho, Nf, K, O, f, w1, w2⟩ := A
  obtain ⟨T', h', kA, X', e', E, Ar, Ov, st⟩ := RoadKit.newR X hx hZ ho w w' eT hg hd hs hn hcap hb (by omega) (by omega)
  have V := (Arv.new Ar hn).pad (pad_rep [] (defaultValue (.object C)) cap)
  refine ⟨_, T', h', kA, ⟨vm0, locs, k0, _, _, ⟨by omega, by omega⟩, X', e', ⟨S, Nat.le_trans S0 E.1⟩, hZ, ho, Nf, K.ext E, O.ext E, ?_, w1, ?_⟩, E, rfl, V, Ov, st⟩
  · intro x hx'
    rcases List.mem_cons.mp hx' with rfl | hx'
    · exact ⟨by have := O.1; have := O.2.1; omega, Or.inr K.1, Ar.lt⟩
    · exact ⟨(f x hx').1, (f x hx').2.1, Nat.lt_of_lt_of_le (f x hx').2.2 E.1⟩
  · intro ew
    obtain ⟨v1, v2, v3⟩ := w2 ew
    refine ⟨v1, v2.trans (CHr.ext E v2.1), fun x hx' => ?_⟩
    rcases List.mem_cons.mp hx' with rfl | hx'
    · exact Safe.ext E v2.1 (Safe.new (Nat.le_refl _))
    · exact Safe.ext E v2.1 (v3 x hx')
theorem Wk.stR (A : Wk W Z a0 EL n0 h0 ws own p l e R s m args below meth c sf T h k n) (hx : p.tables.exec = Jvm.exec) {b : Addr} {kb : ClassId} {C : String} {N : Int32} {vs : List Value} {d : Value} (V : Arv Z h b kb (.object C) N vs d) (O' : Ovr Z kb C) (hb : b ∈ sf) {j : Int32} {y : Addr} (Iy : Ins Z h y C true) (i : Nat) (hj : j.toNatClampNeg = i) (hjn : ¬ j < 0 ∧ j < N) (hi : i < vs.length)
    {g : JFrame} (hg : g.method = m) {rest : List Value} (hs : g.stack = .ref y :: .int j :: .ref b :: rest) (hd : decode c.code g.pc = .ok (.aastore, 1)) :
    ∃ (T' : State) (h' : Heap), Wk W Z a0 EL n0 h0 ws own p l e R s m args below meth c sf T' h' k n ∧ Keep h h' [b] ∧ Arv Z h' b kb (.object C) N (vs.set i (.ref y)) d ∧
      ∀ t, Steps p.tables e below (T'.setTop { g with pc := g.pc + 1, stack := rest }) t → Steps p.tables e below (T.setTop g) t := by
  obtain ⟨vm0, locs, k0, k1, n1, bb, X, eT, S, hZ, ho, Nf, K, O, f, w1, w2⟩ := A
  obtain ⟨cl, Ar, q, Sz, Nn, H, G⟩ := V
  obtain ⟨T', h', X', e', Wr', st⟩ := RoadKit.stR X hx hZ eT Ar (j := j) (v := .ref y) (inb_of Sz hjn) rfl (Sto.ofV Ar q O' Iy) hg hs hd
  exact ⟨T', h', Wk.wrote X' e' Wr' hb bb S hZ ho Nf K O f w1 w2, Keep.of_wr Wr', Arv.set Ar q Sz Nn H G rfl Wr' i hj hi, st⟩
theorem Wk.ldR (A : Wk W Z a0 EL n0 h0 ws own p l e R s m args below meth c sf T h k n) (hx : p.tables.exec = Jvm.exec) {b : Addr} {kb : ClassId} {C : String} {N : Int32} {vs : List Value} {d : Value} (V : Arv Z h b kb (.object C) N vs d) {j : Int32} (i : Nat) (hj : j.toNatClampNeg = i) (hjn : ¬ j < 0 ∧ j < N) {v : Value} (hv : vs.getD i d = v)
    {g : JFrame} (hg : g.method = m) {rest : List Value} (hs : g.stack = .int j :: .ref b :: rest) (hd : decode c.code g.pc = .ok (.aaload, 1)) :
    ∀ t, Steps p.tables e below (T.setTop { g with pc := g.pc + 1, stack := v :: rest }) t → Steps p.tables e below (T.setTop g) t := by
  obtain ⟨vm0, locs, k0, k1, n1, bb, X, eT, S, hZ, ho, Nf, K, O, f, w1, w2⟩ := A
  obtain ⟨cl, Ar, q, Sz, Nn, H, G⟩ := V
  have hin := inb_of Sz hjn
  subst hj
  exact fun t kk => X.aaload hx (by rw [eT]; exact Ar.1) (State.isArrayOf_alike hZ.alike Ar.2.1) rfl Ar.2.2 hin (by rw [H _ (Nat.lt_of_not_le fun q => hin (Or.inr q)), hv]) hg hs hd t kk
theorem Wk.callF (A : Wk W Z a0 EL n0 h0 ws own p l e R s m args below meth c sf T h k n) (hx : p.tables.exec = Jvm.exec) {C : String} {index count : Nat} {y z : MethodName} (wl : (Cond.methodLink own index y).before a0 Z = true) (wd : (Cond.declares y).before a0 Z = true) (wf : (Cond.interfaceMethod y.cls y.cls y.name y.desc).before a0 Z = true) (wse : (Cond.selects C y z).before a0 Z = true) (wi : (Cond.instanceMethod z).before a0 Z = true) (wp : (Cond.publicMethod z).before a0 Z = true) (wu : (Cond.unhidden C y.name y.desc).before a0 Z = true) (wk : (Cond.castable C y.cls).before a0 Z = true) (hy : y.cls ≠ "java/lang/invoke/MethodHandle" ∧ y.cls ≠ "java/lang/invoke/VarHandle")
    {b : Addr} (E : Exa Z h b C) {g : JFrame} (hg : g.method = m) (hsize : g.locals.size = c.maxLocals) (argsL rest : List Value) (hlen : ∀ sig, parseMethodDescriptor y.desc = some sig → argsL.length = sig.parameters.length) (hs : g.stack = argsL.reverse ++ .ref b :: rest) {Wd kc ks : Nat} (hW : 2 * g.monitorRoom + (rest.map fun v => v.category).sum ≤ Wd) (hd : decode c.code g.pc = .ok (.invokeinterface index count, 5)) (hk : k + kc ≤ R.cells) (hn : n + ks ≤ R.slots)
    {Q : Option Value → Heap → List Loc → Prop} (wc' : List Addr) (hQ : ∀ v h' L, Q v h' L → Fr n0 L ∧ Keep h h' wc') (hws : ∀ x ∈ wc', x ∈ sf) (pay : ∀ vm0, Z.Warmed39 (s.setVm vm0).vm → PayN l R p e below (s.setVm vm0) args z 5 Wd (.ref b :: argsL).toArray h kc ks Q) :
    ∃ (v : Option Value) (T' : State) (h' : Heap), (∀ xs : List Addr, (∀ x ∈ xs, x ∈ sf ∨ h.size ≤ x ∧ x < h'.size) → Wk W Z a0 EL n0 h0 ws own p l e R s m args below meth c (xs ++ sf) T' h' (k + kc) (n + ks)) ∧ Keep h h' wc' ∧ (∃ L, Q v h' L) ∧
      ∀ t, Steps p.tables e below (T'.setTop { g with pc := g.pc + 5, stack := v.toList ++ rest }) t → Steps p.tables e below (T.setTop g) t := by
  obtain ⟨vm0, locs, k0, k1, n1, bb, X, eT, S, hZ, ho, Nf, K, O, f, w1, w2⟩ := A
  obtain ⟨cq, kq, qa, qb, qc⟩ := isOf (s := s.setVm vm0) hZ eT E
  obtain ⟨v, _, ⟨T', L', c', s'⟩, -, X', ⟨L, hq, l1, l2, l3⟩, st⟩ := X.interfaceBack hx ho (mvT (s := s.setVm vm0) hZ wl) (mvT (s := s.setVm vm0) hZ wd) (mvT (s := s.setVm vm0) hZ wf (by simp [Cond.onTables, Cond.keepsFace, Cond.keeps, Cond.steady, Cond.faceAtom]; exact hy)) (mvT (s := s.setVm vm0) hZ wse) (mvT (s := s.setVm vm0) hZ wi) (mvT (s := s.setVm vm0) hZ wp) (mvT (s := s.setVm vm0) hZ wu) (mvT (s := s.setVm vm0) hZ wk) hy (pay vm0 hZ) qa qb qc hg hsize (Steps.refl _) (argsL := argsL) (rest := rest) hlen hs hW hd (fun _ _ => ⟨rfl, eT, by show k1 + kc ≤ _; omega, by show n1 + ks ≤ _; omega⟩)
  dsimp only [Pt.U, Pt.locs, Pt.cells, Pt.slots] at X' hq l1 l2 l3 st
  subst l1 l2 l3
  obtain ⟨q1, q2⟩ := hQ _ _ _ hq
  exact ⟨v, T', _, Wk.after X' bb S hZ ho Nf K O f w1 w2 q1 q2 hws, q2, ⟨L, hq⟩, fun t q => st.trans q⟩
abbrev PayV (Z : State) (EL : List (String × Nat)) (l : Launch) (R : Room) (p : Program) (e : Env) (below : List Frame) (s : State) (vm0 : Vm) (args : Array Value) (y : MethodName) (len Wd : Nat) (as : Array Value) (h : Heap) (kc ks : Nat) (Q : Option Value → Heap → Vm → List Loc → Prop) : Prop :=
  BackS l R p e below (s.setVm vm0) args y len Wd (fun A a => a = as ∧ A.U.heap = h ∧ A.cells + kc ≤ R.cells ∧ A.slots + ks ≤ R.slots) (fun A _ v B => ∃ L, Q v B.U.heap B.U.vm L ∧ B.locs = A.locs ++ L ∧ B.cells = A.cells + kc ∧ B.slots = A.slots + ks ∧ CHr Z EL vm0 h B.U.vm B.U.heap)
abbrev EndV (Z : State) (EL : List (String × Nat)) (s : State) (h0 : Heap) (ws : List Addr) (n0 : Nat) (rm : Room) (Q : Option Value → Heap → Vm → Prop) (o : Outcome) (u : State) : Prop :=
  ∃ v L, o = .returned v ∧ (Q v u.heap u.vm ∧ Fr n0 L ∧ Keep h0 u.heap ws) ∧ CHr Z EL s.vm s.heap u.vm u.heap ∧ ReturnedEndW s o u L rm.cells rm.slots
abbrev CtrV (l : Launch) (Z : State) (EL : List (String × Nat)) (y : MethodName) (bytes : ByteArray) (maxL : Nat) (ret : Option FieldType) (tb : List Cond) (rm : Room) (as : Array Value) (h0 : Heap) (ws : List Addr) (n0 : Nat) (Q : Option Value → Heap → Vm → Prop) : Prop :=
  MetFree l y (head1 (Cond.code y bytes maxL ret :: tb) rm) (fun a U => a = as ∧ Z.Warmed39 U.vm ∧ U.heap = h0 ∧ CHv Z EL U.vm h0 ∧ ∀ x ∈ ws, Safe Z EL U.vm h0 x) (fun _ _ _ _ _ => True) (fun _ U o U' => ∃ v L, o = .returned v ∧ (Q v U'.heap U'.vm ∧ Fr n0 L ∧ Keep h0 U'.heap ws) ∧ CHr Z EL U.vm U.heap U'.vm U'.heap ∧ ReturnedEndW U o U' L rm.cells rm.slots)
theorem enterV {y : MethodName} {bytes : ByteArray} {maxL : Nat} {ret : Option FieldType} {tb : List Cond} {rm : Room} {as : Array Value} {Q : Option Value → Heap → Vm → Prop} (hp : plainFor y = true) (hEL : EW Z a0 EL) (hO : Old Z n0 h0) (hsf : ∀ x ∈ ws, n0 ≤ x ∧ x < h0.size)
    (body : ∀ (p : Program) (e : Env) (s : State) (m : MethodId) (below : List Frame) (meth : Method) (c : Code) (T : State), p.tables.exec = Jvm.exec → c.code = bytes → c.maxLocals = maxL → meth.sig.returnType = ret → meth.name = y.name → meth.locks = false → s.heap = h0 →
      Wk true Z a0 EL n0 h0 ws y.cls p l e rm s m as below meth c ws T h0 0 0 → Run p.tables e below (EndV Z EL s h0 ws n0 rm Q) (T.setTop (entryFrame m as maxL))) : CtrV l Z EL y bytes maxL ret tb rm as h0 ws n0 Q := by
  refine MetFree.of_bodySF hp hisR ?_
  intro p e s m args below meth c s₁ Bd hml0 hP hK
  obtain ⟨rfl, hZ, hh, hC, hSf⟩ := hP
  have X0 := Stand.of_body Bd
  have e0 : s₁.heap = h0 := by rw [← hh, Bd.state]; rfl
  exact body p e s m below meth c s₁ Bd.exec Bd.bytes hml0 Bd.returns (name_of_methodNamed Bd.named Bd.method).1 Bd.notSynchronized hh ⟨s.vm, [], 0, 0, 0, ⟨Nat.le_refl _, Nat.le_refl _⟩, X0, e0, ⟨(State.WarmedH.refl s).since 0, Nat.zero_le _⟩, hZ, findClass_of_methodNamed Bd.named, Fr.nil _, Keep.refl _ _, hO, fun x hx => ⟨(hsf x hx).1, Or.inl hx, (hsf x hx).2⟩, fun _ => rfl, fun _ => ⟨hEL, CHr.refl hC, hSf⟩⟩
theorem Wk.leaveV (A : Wk true Z a0 EL n0 h0 ws own p l e R s m args below meth c sf T h k n) (hlk : meth.locks = false) (hh : s.heap = h0) {rm : Room} {Q : Option Value → Heap → Vm → Prop} {g : JFrame} (v : Option Value) (hv : meth.sig.returnType = none → v = none) (hk : k ≤ rm.cells) (hn : n ≤ rm.slots) (hq : (∀ x ∈ sf, (x ∈ ws ∨ h0.size ≤ x) ∧ x < h.size ∧ Safe Z EL T.vm h x) → Q v h T.vm)
    (hret : ∀ {s' : State} {locs : List Loc} {k' n' : Nat} {fs : List Frame}, Stand p l e R s' m args below meth c T locs k' n' → (∀ (f : JFrame) (acts : List Action), f.method = m → f.locked = none → f.entered = [] → (doReturn e (T.setTop f) acts v).1 = T.setFrames fs) → Steps p.tables e below (T.setTop g) (T.setFrames fs)) :
    Run p.tables e below (EndV Z EL s h0 ws n0 rm Q) (T.setTop g) := by
  obtain ⟨vm0, locs, k0, k1, n1, ⟨b1, b2⟩, X, eT, ⟨S, S0⟩, hZ, ho, Nf, K, O, f, w1, w2⟩ := A
  obtain ⟨v1, v2, v3⟩ := w2 rfl
  obtain ⟨fs, hr, hrun, hended, r1, r2, r3, r4⟩ := X.leaveW S (by rw [eT]; exact S0) (v := v) hv hlk
  refine ⟨_, _, hret X hr, hrun, hended, _, _, rfl, ⟨?_, Nf, ?_⟩, ?_, r1, r2, r3, r4.mono (by omega) (by omega)⟩
  · show Q v T.heap T.vm
    have c2 := CHv.at X hZ v1 v2.1
    rw [eT]
    exact hq fun x hx => ⟨(f x hx).2.1, (f x hx).2.2, c2.safe (f x hx).2.2 (v3 x hx)⟩
  · show Keep h0 T.heap ws; rw [eT]; exact K
  · show CHr Z EL s.vm s.heap T.vm T.heap
    rw [eT, hh]; exact v2.trans (CHv.at X hZ v1 v2.1)
theorem payV {y : MethodName} {bytes : ByteArray} {maxL : Nat} {ret : Option FieldType} {rm : Room} {as : Array Value} {Q : Option Value → Heap → Vm → Prop} {len Wd : Nat} (M : CtrV l Z EL y bytes maxL ret [] rm as h ws n0 Q) (wc : (Cond.code y bytes maxL ret).before a0 Z = true) (wz : (Cond.initialized y.cls).before a0 Z = true) (hf : rm.frames + 1 ≤ R.frames) (hl : Wd + (maxL + 11) + rm.locals ≤ R.locals) {vm0 : Vm} (hZ : Z.Warmed39 vm0) (hEL : EW Z a0 EL) (H : CHv Z EL vm0 h) (hsf : ∀ x ∈ ws, x < h.size ∧ Safe Z EL vm0 h x) :
    PayV Z EL l R p e below s vm0 args y len Wd as h rm.cells rm.slots (fun v h' vm' L => Q v h' vm' ∧ Fr n0 L ∧ Keep h h' ws) :=
  BackS.of_freeW (bytes := bytes) (maxL := maxL) (ret := ret) (E := fun _ first o t L k n => k = rm.cells ∧ n = rm.slots ∧ (∃ v, o = .returned v ∧ (Q v t.heap t.vm ∧ Fr n0 L ∧ Keep h t.heap ws)) ∧ CHr Z EL first.vm first.heap t.vm t.heap) M hf hl
    (fun m meth c A a Y hp => have hU : Z.Warmed39 A.U.vm := wtrans (s := s.setVm vm0) hZ Y.warmed
      ⟨by show (Cond.and _ .tt).before a A.U = true; rw [Cond.before_and, mv hU wc]; rfl, mv hU wc, mv hU wz, hp.2.2.1, hp.2.2.2⟩)
    (fun m meth c A a g mk Y hp => ⟨hp.1, wtrans (s := s.setVm vm0) hZ Y.warmed, hp.2.1, (CHv.at Y hZ hEL H).1, fun x hx => (CHv.at Y hZ hEL H).safe (hsf x hx).1 (hsf x hx).2⟩) (fun _ _ _ _ _ _ _ _ _ => trivial)
    (fun _ _ _ _ ⟨v, L, q1, q2, q3, q4⟩ => ⟨L, _, _, q4, rfl, rfl, ⟨v, q1, q2⟩, q3⟩)
    (fun m meth c A a g mk v t L k n Y hp _ _ ⟨e1, e2, ⟨v', e3, e4⟩, e5⟩ => by
      cases e3; subst e1 e2
      refine ⟨L, e4, rfl, rfl, rfl, (CHv.at Y hZ hEL H).trans ?_⟩
      rw [← hp.2.1]; exact e5)
theorem Wk.afterV {kc ks : Nat} {T' : State} {L locs : List Loc} {vm0 : Vm} {k0 k1 n1 : Nat} {wc : List Addr} (eT : T.heap = h) (X' : Stand p l e R ((s.setVm vm0).setVm T'.vm) m args below meth c T' (locs ++ L) (k1 + kc) (n1 + ks)) (S2 : (s.setVm vm0).Since T'.vm T'.heap.size) (gr : T.heap.size ≤ T'.heap.size) (C2 : CHr Z EL vm0 h T'.vm T'.heap)
    (b : k1 ≤ k ∧ n1 ≤ n) (S : s.Since vm0 k0 ∧ k0 ≤ h.size) (hZ : Z.Warmed39 vm0) (ho : vm0.findClass own = some m.cls) (N : Fr n0 locs) (K : Keep h0 h ws) (O : Old Z n0 h) (f : ∀ x ∈ sf, n0 ≤ x ∧ (x ∈ ws ∨ h0.size ≤ x) ∧ x < h.size) (w2 : EW Z a0 EL ∧ CHr Z EL s.vm h0 vm0 h ∧ ∀ x ∈ sf, Safe Z EL vm0 h x)
    (NL : Fr n0 L) (Kc : Keep h T'.heap wc) (hws : ∀ x ∈ wc, x ∈ sf) (xs : List Addr) (hxs : ∀ x ∈ xs, h.size ≤ x ∧ x < T'.heap.size ∧ Safe Z EL T'.vm T'.heap x) :
    Wk true Z a0 EL n0 h0 ws own p l e R s m args below meth c (xs ++ sf) T' T'.heap (k + kc) (n + ks) := by
  obtain ⟨v1, v2, v3⟩ := w2
  obtain ⟨X1, S1, hZ1, ho1⟩ := rebS S.1 S.2 X' S2 (by rw [← eT]; exact gr) hZ ho
  have hn : n0 ≤ h.size := by rw [← O.1]; exact O.2.1
  refine ⟨T'.vm, _, _, _, _, ⟨by omega, by omega⟩, X1, rfl, ⟨S1, Nat.le_refl _⟩, hZ1, ho1, Fr.app N NL, K.trans Kc fun x hx => (f x (hws x hx)).2.1, O.keep Kc fun x hx => (f x (hws x hx)).1, fun x hx => ?_, (fun q => by cases q), fun _ => ⟨v1, v2.trans C2, fun x hx => ?_⟩⟩
  · rcases List.mem_append.mp hx with hx | hx
    · exact ⟨Nat.le_trans hn (hxs x hx).1, Or.inr (Nat.le_trans K.1 (hxs x hx).1), (hxs x hx).2.1⟩
    · exact ⟨(f x hx).1, (f x hx).2.1, Nat.lt_of_lt_of_le (f x hx).2.2 Kc.1⟩
  · rcases List.mem_append.mp hx with hx | hx
    · exact (hxs x hx).2.2
    · exact C2.safe (f x hx).2.2 (v3 x hx)
theorem Wk.callSV (A : Wk true Z a0 EL n0 h0 ws own p l e R s m args below meth c sf T h k n) (hx : p.tables.exec = Jvm.exec) {index : Nat} {y : MethodName} {bytes : ByteArray} {maxL : Nat} {ret : Option FieldType} (wl : (Cond.methodLink own index y).before a0 Z = true) (wst : (Cond.static y).before a0 Z = true) (wz : (Cond.initialized y.cls).before a0 Z = true) (wc : (Cond.code y bytes maxL ret).before a0 Z = true) (hy : y.cls ≠ "java/lang/invoke/MethodHandle" ∧ y.cls ≠ "java/lang/invoke/VarHandle")
    {g : JFrame} (hg : g.method = m) (hsize : g.locals.size = c.maxLocals) (argsL rest : List Value) (hlen : ∀ sig, parseMethodDescriptor y.desc = some sig → argsL.length = sig.parameters.length) (hs : g.stack = argsL.reverse ++ rest) {Wd kc ks : Nat} (hW : 2 * g.monitorRoom + (rest.map fun v => v.category).sum ≤ Wd) (hd : decode c.code g.pc = .ok (.invokestatic index, 3)) (hk : k + kc ≤ R.cells) (hn : n + ks ≤ R.slots)
    {Q : Option Value → Heap → Vm → List Loc → Prop} (wc' : List Addr) (hQ : ∀ v h' vm' L, Q v h' vm' L → Fr n0 L ∧ Keep h h' wc') (hws : ∀ x ∈ wc', x ∈ sf) (pay : ∀ vm0, Z.Warmed39 vm0 → EW Z a0 EL → CHv Z EL vm0 h → (∀ x ∈ wc', x < h.size ∧ Safe Z EL vm0 h x) → PayV Z EL l R p e below s vm0 args y 3 Wd argsL.toArray h kc ks Q) :
    ∃ (v : Option Value) (T' : State) (h' : Heap), (∀ xs : List Addr, (∀ x ∈ xs, h.size ≤ x ∧ x < h'.size ∧ Safe Z EL T'.vm h' x) → Wk true Z a0 EL n0 h0 ws own p l e R s m args below meth c (xs ++ sf) T' h' (k + kc) (n + ks)) ∧ Keep h h' wc' ∧ (∃ L, Q v h' T'.vm L) ∧
      ∀ t, Steps p.tables e below (T'.setTop { g with pc := g.pc + 3, stack := v.toList ++ rest }) t → Steps p.tables e below (T.setTop g) t := by
  obtain ⟨vm0, locs, k0, k1, n1, bb, X, eT, S, hZ, ho, Nf, K, O, f, w1, w2⟩ := A
  obtain ⟨v, _, ⟨T', L', c', s'⟩, -, X', S2, gr, ⟨L, hq, l1, l2, l3, C2⟩, st⟩ := RoadKit.callSS X hx ho (mvT (s := s.setVm vm0) hZ wl) (mvT (s := s.setVm vm0) hZ wst) (mvT (s := s.setVm vm0) hZ wz) (mvT (s := s.setVm vm0) hZ wc) hy (pay vm0 hZ (w2 rfl).1 (w2 rfl).2.1.1 fun x hx => ⟨(f x (hws x hx)).2.2, (w2 rfl).2.2 x (hws x hx)⟩) hg hsize (argsL := argsL) (rest := rest) hlen hs hW hd (fun _ _ => ⟨rfl, eT, by show k1 + kc ≤ _; omega, by show n1 + ks ≤ _; omega⟩)
  dsimp only [Pt.U, Pt.locs, Pt.cells, Pt.slots] at X' hq l1 l2 l3 st S2 gr C2
  subst l1 l2 l3
  obtain ⟨q1, q2⟩ := hQ _ _ _ _ hq
  exact ⟨v, T', _, Wk.afterV eT X' S2 gr C2 bb S hZ ho Nf K O f (w2 rfl) q1 q2 hws, q2, ⟨L, hq⟩, fun t q => st.trans q⟩
theorem Wk.lswHit (A : Wk W Z a0 EL n0 h0 ws own p l e R s m args below meth c sf T h k n) (hx : p.tables.exec = Jvm.exec) {g : JFrame} (hg : g.method = m) {q : Int32} {rest : List Value} (hs : g.stack = .int q :: rest) {df : Int} {pairs : Array (Int × Int)} {len : Nat} {pc0 pc' : Nat} (hpc : g.pc = pc0) (hd : decode c.code g.pc = .ok (.lookupswitch df pairs, len)) (ho : (pairs.toList.zip (pairs.toList.drop 1)).all (fun (a, next) => a.1 < next.1) = true) {a off : Int} (hf : pairs.find? (·.1 == q.toInt) = some (a, off)) (h0' : 0 ≤ (pc0 : Int) + off) (hp : ((pc0 : Int) + off).toNat = pc') :
    ∀ t, Steps p.tables e below (T.setTop { g with pc := pc', stack := rest }) t → Steps p.tables e below (T.setTop g) t := by
  obtain ⟨vm0, locs, k0, k1, n1, bb, X, eT, S, hZ, ho', Nf, K, O, f, w1, w2⟩ := A
  subst hpc hp
  exact fun t kk => X.lookupswitchHit hx hg hs hd ho hf h0' t kk
theorem Wk.lswMiss (A : Wk W Z a0 EL n0 h0 ws own p l e R s m args below meth c sf T h k n) (hx : p.tables.exec = Jvm.exec) {g : JFrame} (hg : g.method = m) {q : Int32} {rest : List Value} (hs : g.stack = .int q :: rest) {df : Int} {pairs : Array (Int × Int)} {len : Nat} {pc0 pc' : Nat} (hpc : g.pc = pc0) (hd : decode c.code g.pc = .ok (.lookupswitch df pairs, len)) (ho : (pairs.toList.zip (pairs.toList.drop 1)).all (fun (a, next) => a.1 < next.1) = true) (hf : pairs.find? (·.1 == q.toInt) = none) (h0' : 0 ≤ (pc0 : Int) + df) (hp : ((pc0 : Int) + df).toNat = pc') :
    ∀ t, Steps p.tables e below (T.setTop { g with pc := pc', stack := rest }) t → Steps p.tables e below (T.setTop g) t := by
  obtain ⟨vm0, locs, k0, k1, n1, bb, X, eT, S, hZ, ho', Nf, K, O, f, w1, w2⟩ := A
  subst hpc hp
  exact fun t kk => X.lookupswitchMiss hx hg hs hd ho hf h0' t kk
end Map
/-! a lambda's site, a default method with handlers, Class objects, a resolved field -/
section Lam
variable {W : Bool} {Z : State} {a0 : Array Value} {EL : List (String × Nat)} {n0 : Nat} {h0 : Heap} {ws : List Addr} {own : String} {p : Program} {l : Launch} {e : Env} {R : Room} {s : State} {m : MethodId} {args : Array Value} {below : List Frame} {meth : Method} {c : Code} {sf : List Addr} {T : State} {h : Heap} {k n : Nat}
theorem nfInst {Z : State} {a0 : Array Value} {y : MethodName} {q : Nat} (w : (Cond.instantiable y.cls q).before a0 Z = true) (s' : State) (hZ : Z.Warmed39 s'.vm) : NotFace s' y := fun r0 h0 => by
  obtain ⟨t, kt, t1, t2, t3, t4, -⟩ := Cond.instantiable_spec (mvT (s := s') (args := #[]) hZ w)
  have d1 := findClass_of_methodNamed h0
  cases t1.symm.trans d1
  simp only [Bool.or_eq_false_iff] at t4
  exact ⟨kt, t2, t4.1⟩
theorem mvI {Z s : State} {a0 args : Array Value} {r o nn d : String} (hZ : Z.Warmed39 s.vm) (w : (Cond.interfaceMethod r o nn d).before a0 Z = true) : (Cond.interfaceMethod r o nn d).before args s = true := by
  have h := hZ.alike
  have e3 : ∀ k : ClassId, (s.vm.classes[k]?).any (·.isInterface) = (Z.vm.classes[k]?).any (·.isInterface) := h.anyClass _ fun _ => rfl
  have h1 : (Cond.interfaceMethod r o nn d).before a0 (Z.setVm s.vm) = (Cond.interfaceMethod r o nn d).before a0 Z := by
    simp only [Cond.before, Cond.holds, Cond.value, State.vm_setVm, h.findClass, State.methodFound?_setVm h, State.methodNamed?_setVm h, e3]
  exact h1.trans w
theorem enterNN {y : MethodName} {bytes : ByteArray} {maxL : Nat} {ret : Option FieldType} {tb : List Cond} {rm : Room} {as : Array Value} {Q : Option Value → Heap → Prop} (hp : plainFor y = true) (hO : Old Z n0 h0) (hsf : ∀ x ∈ ws, n0 ≤ x ∧ x < h0.size)
    (body : ∀ (p : Program) (e : Env) (s : State) (m : MethodId) (below : List Frame) (meth : Method) (c : Code) (T : State), p.tables.exec = Jvm.exec → c.code = bytes → c.maxLocals = maxL → meth.sig.returnType = ret → meth.name = y.name → meth.locks = false →
      Wk false Z a0 [] n0 h0 ws y.cls p l e rm s m as below meth c ws T h0 0 0 → s.methodNamed? y = some m → Run p.tables e below (EndN s h0 ws n0 rm Q) (T.setTop (entryFrame m as maxL))) : CtrN l Z y bytes maxL ret tb rm as h0 ws n0 Q := by
  refine MetFree.of_bodySF hp hisR ?_
  intro p e s m args below meth c s₁ Bd hml0 hP hK
  obtain ⟨rfl, hZ, hh⟩ := hP
  have X0 := Stand.of_body Bd
  have e0 : s₁.heap = h0 := by rw [← hh, Bd.state]; rfl
  exact body p e s m below meth c s₁ Bd.exec Bd.bytes hml0 Bd.returns (name_of_methodNamed Bd.named Bd.method).1 Bd.notSynchronized ⟨s.vm, [], 0, 0, 0, ⟨Nat.le_refl _, Nat.le_refl _⟩, X0, e0, ⟨(State.WarmedH.refl s).since 0, Nat.zero_le _⟩, hZ, findClass_of_methodNamed Bd.named, Fr.nil _, Keep.refl _ _, hO, fun x hx => ⟨(hsf x hx).1, Or.inl hx, (hsf x hx).2⟩, fun _ => rfl, fun q => by cases q⟩ Bd.named
/-- invokevirtual that lands in an interface's default method -/
theorem Wk.callVD (A : Wk W Z a0 EL n0 h0 ws own p l e R s m args below meth c sf T h k n) (hx : p.tables.exec = Jvm.exec) {C owner : String} {index : Nat} {y z : MethodName} (wl : (Cond.methodLink own index y).before a0 Z = true) (wsm : (Cond.sameMethod y.cls owner y.name y.desc).before a0 Z = true) (wd : (Cond.declares ⟨owner, y.name, y.desc⟩).before a0 Z = true) (ho0 : owner ≠ "java/lang/invoke/MethodHandle" ∧ owner ≠ "java/lang/invoke/VarHandle") (wse : (Cond.landsInDefault C y z).before a0 Z = true) (wi : (Cond.instanceMethod z).before a0 Z = true)
    {b : Addr} (E : Exa Z h b C) {g : JFrame} (hg : g.method = m) (hsize : g.locals.size = c.maxLocals) (argsL rest : List Value) (hlen : ∀ sig, parseMethodDescriptor y.desc = some sig → argsL.length = sig.parameters.length) (hs : g.stack = argsL.reverse ++ .ref b :: rest) {Wd kc ks : Nat} (hW : 2 * g.monitorRoom + (rest.map fun v => v.category).sum ≤ Wd) (hd : decode c.code g.pc = .ok (.invokevirtual index, 3)) (hk : k + kc ≤ R.cells) (hn : n + ks ≤ R.slots)
    {Q : Option Value → Heap → List Loc → Prop} (wc' : List Addr) (hQ : ∀ v h' L, Q v h' L → Fr n0 L ∧ Keep h h' wc') (hws : ∀ x ∈ wc', x ∈ sf) (pay : ∀ vm0, Z.Warmed39 (s.setVm vm0).vm → PayN l R p e below (s.setVm vm0) args z 3 Wd (.ref b :: argsL).toArray h kc ks Q) :
    ∃ (v : Option Value) (T' : State) (h' : Heap), (∀ xs : List Addr, (∀ x ∈ xs, x ∈ sf ∨ h.size ≤ x ∧ x < h'.size) → Wk W Z a0 EL n0 h0 ws own p l e R s m args below meth c (xs ++ sf) T' h' (k + kc) (n + ks)) ∧ Keep h h' wc' ∧ (∃ L, Q v h' L) ∧
      ∀ t, Steps p.tables e below (T'.setTop { g with pc := g.pc + 3, stack := v.toList ++ rest }) t → Steps p.tables e below (T.setTop g) t := by
  obtain ⟨vm0, locs, k0, k1, n1, bb, X, eT, S, hZ, ho, Nf, K, O, f, w1, w2⟩ := A
  obtain ⟨cq, kq, qa, qb, qc⟩ := isOf (s := s.setVm vm0) hZ eT E
  obtain ⟨v, _, ⟨T', L', c', s'⟩, -, X', ⟨L, hq, l1, l2, l3⟩, st⟩ := X.virtualBackUpD hx ho (mvT (s := s.setVm vm0) hZ wl) (mvT (s := s.setVm vm0) hZ wsm) (mvT (s := s.setVm vm0) hZ wd) ho0 (mvD (s := s.setVm vm0) hZ wse) (mvT (s := s.setVm vm0) hZ wi) (pay vm0 hZ) qa qc hg hsize (Steps.refl _) (argsL := argsL) (rest := rest) hlen hs hW hd (fun _ _ => ⟨rfl, eT, by show k1 + kc ≤ _; omega, by show n1 + ks ≤ _; omega⟩)
  dsimp only [Pt.U, Pt.locs, Pt.cells, Pt.slots] at X' hq l1 l2 l3 st
  subst l1 l2 l3
  obtain ⟨q1, q2⟩ := hQ _ _ _ hq
  exact ⟨v, T', _, Wk.after X' bb S hZ ho Nf K O f w1 w2 q1 q2 hws, q2, ⟨L, hq⟩, fun t q => st.trans q⟩
/-- the Class object that a class's record names -/
def Mi (Z : State) (C : String) (mm : Addr) : Prop := ∃ (c : ClassId) (k : Class), Z.vm.findClass C = some c ∧ Z.vm.classes[c]? = some k ∧ k.mirror = some mm
/-- getClass() through an interface -/
theorem Wk.gclsI (A : Wk W Z a0 EL n0 h0 ws own p l e R s m args below meth c sf T h k n) (hx : p.tables.exec = Jvm.exec) {C : String} {index count : Nat} {xi : MethodName} (wl : (Cond.methodLink own index xi).before a0 Z = true) (wd : (Cond.declares Jvm.Stand.gcN).before a0 Z = true) (wf : (Cond.interfaceMethod xi.cls "java/lang/Object" xi.name xi.desc).before a0 Z = true) (wse : (Cond.selects C xi Jvm.Stand.gcN).before a0 Z = true) (wi : (Cond.instanceMethod Jvm.Stand.gcN).before a0 Z = true) (wp : (Cond.publicMethod Jvm.Stand.gcN).before a0 Z = true) (wu : (Cond.unhidden C xi.name xi.desc).before a0 Z = true) (wk : (Cond.castable C xi.cls).before a0 Z = true) (wn : (Cond.native Jvm.Stand.gcN).before a0 Z = true) (hy : xi.cls ≠ "java/lang/invoke/MethodHandle" ∧ xi.cls ≠ "java/lang/invoke/VarHandle") (hxo : xi.cls ≠ "java/lang/Object") (hname : xi.name = "getClass") (hdesc : xi.desc = "()Ljava/lang/Class;")
    {b mr : Addr} (E : Exa Z h b C) (M : Mi Z C mr) {g : JFrame} (hg : g.method = m) (hsize : g.locals.size = c.maxLocals) {rest : List Value} (hs : g.stack = .ref b :: rest) (hd : decode c.code g.pc = .ok (.invokeinterface index count, 5)) (hf : 1 ≤ R.frames) {Wd : Nat} (hW : 2 * g.monitorRoom + (rest.map fun v => v.category).sum ≤ Wd) (hl : Wd + (nativeFrameWords "java/lang/Object" "getClass" 1 + 11) ≤ R.locals) :
    ∃ (T' : State), Wk W Z a0 EL n0 h0 ws own p l e R s m args below meth c sf T' h k n ∧ ∀ t, Steps p.tables e below (T'.setTop { g with pc := g.pc + 5, stack := .ref mr :: rest }) t → Steps p.tables e below (T.setTop g) t := by
  obtain ⟨vm0, locs, k0, k1, n1, bb, X, eT, S, hZ, ho, Nf, K, O, f, w1, w2⟩ := A
  obtain ⟨cq, kq, qa, qb, qc⟩ := isOf (s := s.setVm vm0) hZ eT E
  obtain ⟨cc, kc, m1, m2, m3⟩ := M
  have qa' : vm0.findClass C = some cq := qa
  rw [hZ.alike.findClass] at qa'
  cases qa'.symm.trans m1
  obtain ⟨k', q, ek⟩ := hZ.alike.2.2 _ _ m2
  obtain ⟨vm', X', st⟩ := X.getClassOfI hx ho (mvT (s := s.setVm vm0) hZ wl) (mvT (s := s.setVm vm0) hZ wd) (mvI (s := s.setVm vm0) hZ wf) (mvT (s := s.setVm vm0) hZ wse) (mvT (s := s.setVm vm0) hZ wi) (mvT (s := s.setVm vm0) hZ wp) (mvT (s := s.setVm vm0) hZ wu) (mvT (s := s.setVm vm0) hZ wk) (mvT (s := s.setVm vm0) hZ wn) hy hxo hname hdesc qa q qc (by rw [ek]; exact m3) hg hsize hs hd hf (by omega)
  exact ⟨_, Wk.stay X' eT bb S hZ ho Nf K O f w1 w2, st⟩
/-- ldc of a class whose Class object there is -/
theorem Wk.ldcK (A : Wk W Z a0 EL n0 h0 ws own p l e R s m args below meth c sf T h k n) (hx : p.tables.exec = Jvm.exec) {C : String} {index : Nat} (w : (Cond.classLink own index C).before a0 Z = true) {mr : Addr} (M : Mi Z C mr) {g : JFrame} (hg : g.method = m) (hd : decode c.code g.pc = .ok (.ldc index, 2)) :
    ∃ (T' : State), Wk W Z a0 EL n0 h0 ws own p l e R s m args below meth c sf T' h k n ∧ ∀ t, Steps p.tables e below (T'.setTop { g with pc := g.pc + 2, stack := .ref mr :: g.stack }) t → Steps p.tables e below (T.setTop g) t := by
  obtain ⟨vm0, locs, k0, k1, n1, bb, X, eT, S, hZ, ho, Nf, K, O, f, w1, w2⟩ := A
  obtain ⟨cc, kc, m1, m2, m3⟩ := M
  obtain ⟨k', q, ek⟩ := hZ.alike.2.2 _ _ m2
  have m1' : vm0.findClass C = some cc := by rw [hZ.alike.findClass]; exact m1
  obtain ⟨vm', X', st⟩ := X.ldcMirror hx (C := C) (a := mr) ho (mvT (s := s.setVm vm0) hZ w) (by show ((do let c ← vm0.findClass C; let kk ← vm0.classes[c]?; let mm ← kk.mirror; pure (Value.ref mm)) : Option Value) = some (.ref mr); rw [m1']; show ((do let kk ← vm0.classes[cc]?; let mm ← kk.mirror; pure (Value.ref mm)) : Option Value) = _; rw [q]; show ((do let mm ← k'.mirror; pure (Value.ref mm)) : Option Value) = _; rw [ek, m3]; rfl) hg hd
  exact ⟨_, Wk.stay X' eT bb S hZ ho Nf K O f w1 w2, st⟩
end Lam
section Lam2
variable {W : Bool} {Z : State} {a0 : Array Value} {EL : List (String × Nat)} {n0 : Nat} {h0 : Heap} {ws : List Addr} {own : String} {p : Program} {l : Launch} {e : Env} {R : Room} {s : State} {m : MethodId} {args : Array Value} {below : List Frame} {meth : Method} {c : Code} {sf : List Addr} {T : State} {h : Heap} {k n : Nat}
theorem extP (h : Heap) (cell : Cell) : Ext h (h.push cell) := ⟨by simp, fun a c' ha => by
  have hl := (Array.getElem?_eq_some_iff.mp ha).1
  rw [Array.getElem?_push_lt hl]; exact (Array.getElem?_eq_getElem hl).symm.trans ha⟩
/-- invokedynamic at a lambda's site that captures one reference, in a body that interns nothing -/
theorem Wk.lam (A : Wk false Z a0 EL n0 h0 ws own p l e R s m args below meth c sf T h k n) (hx : p.tables.exec = Jvm.exec) {x : MethodName} {pc index fi : Nat} {σ : Lambda.Shape} (hnamed : s.methodNamed? x = some m) (wl : (Cond.lambdaSite x pc index σ).before a0 Z = true) (hcap : σ.captured ≠ []) (hok : Jvm.LamKit.capOK σ x.cls fi 0 = true) (wO : (Cond.instantiable "java/lang/Object" 0).before a0 Z = true)
    {g : JFrame} (hg : g.method = m) (hpc : g.pc = pc) (hsize : g.locals.size = c.maxLocals) (hd : decode c.code g.pc = .ok (.invokedynamic index, 5)) {v : Value} {rest : List Value} (hlen : [v].length = σ.captured.length) (hs : g.stack = v :: rest) (hfit : ∀ (i : Nat) t w, σ.captured[i]? = some t → [v][i]? = some w → narrow t w = w ∧ fits t w = true)
    {Wd : Nat} (hW : 2 * g.monitorRoom + (g.stack.map fun v => v.category).sum ≤ Wd) (hl : Wd + 3072 ≤ R.locals) (hc : k + 1 ≤ R.cells) (hsl : n + 1 ≤ R.slots) :
    ∃ (a : Addr) (T' : State) (h' : Heap), Wk false Z a0 EL n0 h0 ws own p l e R s m args below meth c (a :: sf) T' h' (k + 1) (n + 1) ∧ Ext h h' ∧ h.size = a ∧
      ∀ t, Steps p.tables e below (T'.setTop { g with pc := g.pc + 5, stack := .ref a :: rest }) t → Steps p.tables e below (T.setTop g) t := by
  obtain ⟨vm0, locs, k0, k1, n1, ⟨b1, b2⟩, X, eT, ⟨S, S0⟩, hZ, ho, Nf, K, O, f, w1, w2⟩ := A
  cases w1 rfl
  obtain ⟨cK, one, hat⟩ := Cond.lambdaSite_spec wl
  obtain ⟨mD, kD, cfD, i0, p0, lk, hmD, hkD, hcfD, hsh, -, hfind, hmade, hcan, hlk⟩ := State.lambdaAt?_spec hat
  have hn' : Z.methodNamed? x = some m := (State.methodNamed?_setVm hZ.alike (x := x)).symm.trans hnamed
  cases hn'.symm.trans hmD
  obtain ⟨kD', hkD', hnameD⟩ := className_of_methodNamed hn'
  cases hkD.symm.trans hkD'
  rcases hlk with ⟨a, cell, -, -, hc0, -⟩ | ⟨rfl, -, -⟩
  · exact absurd hc0 hcap
  obtain ⟨b, nt, desc, site, h1, h2, h3, h4⟩ := shapeOf?_site hsh
  obtain ⟨kc, f', hkc, hkind, hty, -⟩ := Jvm.LamKit.made_cap hok hkD hnameD hmade (Jvm.LamKit.noFields wO (State.WarmedH.refl Z))
  obtain ⟨kD2, hkD2, eD⟩ := hZ.alike.2.2 _ _ hkD
  obtain ⟨kc2, hkc2, ec⟩ := hZ.alike.2.2 _ _ hkc
  have hty2 : kc2.instanceTypes.toList = σ.captured := by rw [ec]; show kc.instanceTypes.toList = _; rw [hty]
  have hkind2 : kc2.kind = .ordinary := by rw [ec]; exact hkind
  have hz : ((kc2.instanceTypes.toList.zip [v]).map fun (t, v) => narrow t v) = [v] := by rw [hty2]; exact Jvm.LamKit.zip_narrow _ _ hlen fun i t v a b => (hfit i t v a b).1
  have hw : e.platform.lambdaLinkWords = 3072 := by rw [X.admits.platform]
  have q := X.lambdaMakes hx hg hsize hd (vals := [v]) (rest := rest) hkD2 (by rw [hpc, eD]; exact hfind) (by rw [eD]; exact hcfD) h1 h2 (parseLong_of_parse h3) (by rw [h4]; exact hlen) hs hkc2 (by rw [hw]; omega) (by omega) (by rw [hz]; show n1 + 1 ≤ _; omega)
    (fun i w hv => by
      rw [hz] at hv
      have hv' : [v][i]? = some w := by simpa using hv
      have hi : i < σ.captured.length := by rw [← hlen]; exact (List.getElem?_eq_some_iff.mp hv').1
      have := (hfit i _ w (List.getElem?_eq_getElem hi) hv').2
      have ht2 : kc2.instanceTypes[i]? = some σ.captured[i] := by rw [← Array.getElem?_toList, hty2]; exact List.getElem?_eq_getElem hi
      simp [State.fitsSlot, State.slotType?, hkc2, hkind2, ht2, this])
  rw [hz] at q
  have X' : Stand p l e R (s.setVm s.vm) m args below meth c (T.pushCell { cls := cK, slots := [v].toArray, vm := .none }) locs (k1 + 1) (n1 + 1) := by simpa using q.1
  have st := q.2
  have eh : (T.pushCell { cls := cK, slots := [v].toArray, vm := .none }).heap = h.push { cls := cK, slots := [v].toArray, vm := .none } := by rw [← eT]; rfl
  have E := extP h { cls := cK, slots := [v].toArray, vm := .none }
  refine ⟨h.size, _, _, ⟨s.vm, locs, k0, k1 + 1, n1 + 1, ⟨by omega, by omega⟩, X', eh, ⟨S, Nat.le_trans S0 E.1⟩, hZ, ho, Nf, K.ext E, O.ext E, ?_, fun _ => rfl, fun q => by cases q⟩, E, rfl, ?_⟩
  · intro y hy
    rcases List.mem_cons.mp hy with rfl | hy
    · exact ⟨by rw [← O.1]; exact O.2.1, Or.inr K.1, by simp⟩
    · exact ⟨(f y hy).1, (f y hy).2.1, Nat.lt_of_lt_of_le (f y hy).2.2 E.1⟩
  · rw [← eT]; exact st
end Lam2
section Lam3
variable {W : Bool} {Z : State} {a0 : Array Value} {EL : List (String × Nat)} {n0 : Nat} {h0 : Heap} {ws : List Addr} {own : String} {p : Program} {l : Launch} {e : Env} {R : Room} {s : State} {m : MethodId} {args : Array Value} {below : List Frame} {meth : Method} {c : Code} {sf : List Addr} {T : State} {h : Heap} {k n : Nat}
/-- getfield by an entry that has been resolved -/
theorem Wk.getFR (A : Wk W Z a0 EL n0 h0 ws own p l e R s m args below meth c sf T h k n) (hx : p.tables.exec = Jvm.exec) {R0 fn d : String} {index : Nat} (w : (Cond.fieldRef own index R0 fn d).before a0 Z = true) {a : Addr} {v : Value} (F : Fld Z h a R0 fn d v) {g : JFrame} (hg : g.method = m) {rest : List Value} (hs : g.stack = .ref a :: rest) (hd : decode c.code g.pc = .ok (.getfield index, 3)) :
    ∀ t, Steps p.tables e below (T.setTop { g with pc := g.pc + 3, stack := v :: rest }) t → Steps p.tables e below (T.setTop g) t := by
  obtain ⟨vm0, locs, k0, k1, n1, bb, X, eT, S, hZ, ho, Nf, K, O, f, w1, w2⟩ := A
  obtain ⟨cell, cf, kk, i0, f0, q1, q2, q3, q4, q5, q6, q7⟩ := F
  have hoZ : Z.vm.findClass own = some m.cls := by have q := ho; rw [hZ.alike.findClass] at q; exact q
  obtain ⟨c1, kx, ix, f1, r1, k2, i2, kc, s1, s2, s3, s4⟩ := Cond.fieldRef_spec hoZ w
  cases q2.symm.trans r1
  have hT : Z.Warmed39 T.vm := wtrans (s := s.setVm vm0) hZ X.warmed
  have L : Z.resolvedAt? own index = some (.field cf i2) := by simp [State.resolvedAt?, hoZ, s1, s2]
  have r : T.resolvedAt? own index = some (.field cf i2) := State.resolvedAt?_warmed39 hT L
  have oT : T.vm.findClass own = some m.cls := by rw [hT.alike.findClass]; exact hoZ
  obtain ⟨kT, hkT, -⟩ := hT.alike.2.2 _ _ s1
  obtain ⟨kcT, hkcT, ecT⟩ := hT.alike.2.2 _ _ s3
  have rr : kT.resolved[index]? = some (some (.field cf i2)) := by
    simp only [State.resolvedAt?, oT, hkT, Option.bind_eq_bind, Option.bind_some] at r
    cases hq : kT.resolved[index]? with
    | none => simp [hq] at r
    | some z => simp [hq] at r; rw [r]
  have ready : T.vm.fieldReady m.cls index cf f0 := ⟨kT, i2, kcT, hkT, rr, hkcT, by rw [ecT]; exact s4⟩
  intro t kk'
  subst hg
  jvm_step X.here [hx, hd, getfield.wp_ready (e := e) (s := T) (f := g) (c := cf) (field := f0) (a := a) (rest := rest) (cell := cell) (v := v) X.here.top ready q3 hs (by rw [eT]; exact q1) q4 q7]
  exact kk'
end Lam3
section Lam4
variable {W : Bool} {Z : State} {a0 : Array Value} {EL : List (String × Nat)} {n0 : Nat} {h0 : Heap} {ws : List Addr} {own : String} {p : Program} {l : Launch} {e : Env} {R : Room} {s : State} {m : MethodId} {args : Array Value} {below : List Frame} {meth : Method} {c : Code} {sf : List Addr} {T : State} {h : Heap} {k n : Nat}
/-- a body that is walked from its entry frame, whether its class is initialised or not (a default method of an interface) -/
abbrev CtrU (l : Launch) (Z : State) (y : MethodName) (bytes : ByteArray) (maxL : Nat) (ret : Option FieldType) (rm : Room) (as : Array Value) (h0 : Heap) (ws : List Addr) (n0 : Nat) (Q : Option Value → Heap → Prop) : Prop :=
  ∀ (p : Program) (e : Env) (s : State) (m : MethodId) (below : List Frame) (meth : Method) (c : Code), p.tables.exec = Jvm.exec → c.code = bytes → c.maxLocals = maxL → meth.sig.returnType = ret → meth.locks = false → s.methodNamed? y = some m → Z.Warmed39 s.vm → s.heap = h0 →
    Stand p l e rm s m as below meth c (s.setFrames (.java (entryFrame m as maxL) :: below)) [] 0 0 → Run p.tables e below (EndN s h0 ws n0 rm Q) ((s.setFrames (.java (entryFrame m as maxL) :: below)).setTop (entryFrame m as maxL))
theorem enterU {y : MethodName} {bytes : ByteArray} {maxL : Nat} {ret : Option FieldType} {rm : Room} {as : Array Value} {Q : Option Value → Heap → Prop} (hO : Old Z n0 h0) (hsf : ∀ x ∈ ws, n0 ≤ x ∧ x < h0.size)
    (body : ∀ (p : Program) (e : Env) (s : State) (m : MethodId) (below : List Frame) (meth : Method) (c : Code) (T : State), p.tables.exec = Jvm.exec → c.code = bytes → c.maxLocals = maxL → meth.sig.returnType = ret → meth.name = y.name → meth.locks = false →
      Wk false Z a0 [] n0 h0 ws y.cls p l e rm s m as below meth c ws T h0 0 0 → Run p.tables e below (EndN s h0 ws n0 rm Q) (T.setTop (entryFrame m as maxL))) : CtrU l Z y bytes maxL ret rm as h0 ws n0 Q := by
  intro p e s m below meth c hx hby hml hrt hlk hnm hZ hh X0
  have e0 : (s.setFrames (.java (entryFrame m as maxL) :: below)).heap = h0 := by rw [← hh]; rfl
  exact body p e s m below meth c _ hx hby hml hrt (name_of_methodNamed hnm X0.method).1 hlk ⟨s.vm, [], 0, 0, 0, ⟨Nat.le_refl _, Nat.le_refl _⟩, X0, e0, ⟨(State.WarmedH.refl s).since 0, Nat.zero_le _⟩, hZ, findClass_of_methodNamed hnm, Fr.nil _, Keep.refl _ _, hO, fun x hx => ⟨(hsf x hx).1, Or.inl hx, (hsf x hx).2⟩, fun _ => rfl, fun q => by cases q⟩
theorem payU {y : MethodName} {bytes : ByteArray} {maxL : Nat} {ret : Option FieldType} {hs : List (Nat × Nat × Nat × Nat)} {rm : Room} {as : Array Value} {Q : Option Value → Heap → Prop} {len Wd : Nat} (M : CtrU l Z y bytes maxL ret rm as h ws n0 Q) (hpl : plainFor y = true) (wc : (Cond.codeWith y bytes maxL ret hs).before a0 Z = true) (hf : rm.frames + 1 ≤ R.frames) (hl : Wd + (maxL + 11) + rm.locals ≤ R.locals) {vm0 : Vm} (hZ : Z.Warmed39 (s.setVm vm0).vm) :
    PayN l R p e below (s.setVm vm0) args y len Wd as h rm.cells rm.slots (fun v h' L => Q v h' ∧ Fr n0 L ∧ Keep h h' ws) := by
  intro m meth c A g ig mk a X hg hsize hdg hW hn hp'
  obtain ⟨U, Ls, c0, s0⟩ := A
  dsimp only [Pt.U, Pt.locs, Pt.cells, Pt.slots] at X hn hp' ⊢
  obtain ⟨rfl, hh, h4, h5⟩ := hp'
  have hU : Z.Warmed39 U.vm := wtrans (s := s.setVm vm0) hZ X.warmed
  have h2 : (Cond.codeWith y bytes maxL ret hs).before a U = true := mv hU wc
  obtain ⟨mY', methY, cY, hnY', hmY, hcY, hbY, hlY, -, hrY, hlkY, -⟩ := Cond.codeWith_spec h2
  cases hn.symm.trans hnY'
  have hat : At U g.method c below := by rw [hg]; exact X.here
  have room := X.room_calling (g := g) (R' := rm) (args' := a) hsize hmY hcY hf (by rw [hlY]; omega) h4 h5
  have hfr0 : (U.calling g mk a).frames = .invoking mk a :: .java g :: U.frames.tail := State.frames_calling hat.top g mk a
  have hcur := State.cur_lt_of_frames hfr0
  have hf1 : ((U.calling g mk a).setFrames (.java (entryFrame mk a maxL) :: .java g :: U.frames.tail)).frames = .java (entryFrame mk a maxL) :: .java g :: U.frames.tail := State.frames_setFrames _ hcur
  have ht1 := State.topJava?_of_frames hf1
  obtain ⟨t0, ht0, -⟩ := State.frames_cons hfr0
  have hcode : (U.calling g mk a).code? g.method = some c := by
    have q := hat.code
    rw [State.code?_eq] at q ⊢
    simpa [State.calling, State.pushFrame, State.setFrames] using q
  have hmY' : (U.calling g mk a).vm.method? mk = some methY := hmY
  have hAt : At ((U.calling g mk a).setFrames (.java (entryFrame mk a maxL) :: .java g :: U.frames.tail)) mk cY (.java g :: U.frames.tail) :=
    ⟨by rw [ht1]; rfl, ⟨[], by rw [hf1]; rfl⟩, hat.running, by simpa [State.calling] using hat.runnable, by simpa [State.calling] using hat.alone,
      by rw [State.code?_eq]; simp [State.setFrames, hmY', hcY], State.plainMethod.of_named (s := U.calling g mk a) hpl hn hmY'⟩
  have Y : Stand p l e rm (U.calling g mk a) mk a (.java g :: U.frames.tail) methY cY ((U.calling g mk a).setFrames (.java (entryFrame mk a maxL) :: .java g :: U.frames.tail)) [] 0 0 :=
    ⟨X.admits, X.cas, X.clock, hfr0, room, by simp [State.hears, hcode, hdg, Except.toOption], hmY', hcY, hAt, by rw [hf1]; rfl, State.WarmedH.refl _, by rw [State.stackLimits_setFrames], by rw [State.stackBytes_setFrames],
      (State.sameButNew.refl (U.calling g mk a) ht0).setFrames (.java (entryFrame mk a maxL) :: .java g :: U.frames.tail) hcur⟩
  obtain ⟨s₂, o, hst, hrun, hend, v, L, rfl, hq, hfe⟩ := M p e (U.calling g mk a) mk _ methY cY (by cases p <;> rfl) hbY hlY hrY hlkY hn hU hh Y
  have hgo : (doInvoke e (U.setTop g) [] mk a).1 = ((U.calling g mk a).setFrames (.java (entryFrame mk a maxL) :: .java g :: U.frames.tail)).setTop (entryFrame mk a maxL) := by
    rw [doInvoke_enter hat.top [] hmY hcY hlkY (X.notFull hsize (by omega) (by omega)), hlY, State.calling, State.pushFrame, State.pushFrame, State.setFrames_setFrames, State.frames_setTop' g hat.top]
  have hsteps : Steps p.tables e below (doInvoke e (U.setTop g) [] mk a).1 s₂ := by
    rw [hgo]
    obtain ⟨j, hj, hw⟩ := hst
    refine ⟨j, hj, fun i hi => ?_⟩
    exact Within.weaken (mid := [.java g]) (show Within _ ([.java g] ++ below) from by rw [← X.tail]; exact hw i hi)
  obtain ⟨-, hW₂, e2, q2, q3, q4, q5, q6⟩ := hfe
  have e3 : s₂ = ({ (U.calling g mk a).setFrames s₂.frames with heap := s₂.heap, slotsUsed := s₂.slotsUsed } : State).setVm s₂.vm := by
    have q : s₂ = ({ s₂ with vm := (U.calling g mk a).vm } : State).setVm s₂.vm := rfl
    rw [e2] at q
    exact q
  obtain ⟨c₂, i₂, len₂, hc₂, hd₂, hf₂⟩ := hend
  have hW' : U.WarmedH s₂.vm := hW₂
  have hcc : c₂ = c := by
    have h1 : s₂.code? g.method = U.code? g.method := by rw [State.code?_eq, State.code?_eq, hW'.alike.method?]
    exact Option.some.inj (hc₂.symm.trans (h1.trans hat.code))
  subst hcc
  have hlen : len₂ = len := by rw [hdg] at hd₂; cases hd₂; rfl
  subst hlen
  obtain ⟨g₀, hg0⟩ := Option.isSome_iff_exists.mp hat.top
  obtain ⟨r, hr⟩ := State.topJava?_eq_some.mp hg0
  have hs₂ : s₂ = (({ U with heap := s₂.heap, slotsUsed := s₂.slotsUsed } : State).setVm s₂.vm).setTop { g with pc := g.pc + len₂, stack := v.toList ++ g.stack } := by
    have hr' : (({ U with heap := s₂.heap, slotsUsed := s₂.slotsUsed } : State).setVm s₂.vm).frames = .java g₀ :: r := hr
    refine e3.trans ?_
    rw [hf₂, State.calling_eq hat.top, State.setFrames_setFrames, State.setTop_of_frames _ hr', hr]
    rfl
  have hsame : U.sameButNew ({ U with heap := s₂.heap, slotsUsed := s₂.slotsUsed } : State) L rm.cells rm.slots := by
    refine ⟨?_, q2, q3, q4, q5, q6⟩
    obtain ⟨t, ht, -⟩ := State.frames_cons hr
    show ({ U with heap := s₂.heap, slotsUsed := s₂.slotsUsed } : State) = { U.setFrames U.frames with heap := s₂.heap, slotsUsed := s₂.slotsUsed }
    rw [State.setFrames_self ht]
  subst hg
  refine ⟨v, ⟨(({ U with heap := s₂.heap, slotsUsed := s₂.slotsUsed } : State).setVm s₂.vm), Ls ++ L, c0 + rm.cells, s0 + rm.slots⟩,
    ⟨X.admits, X.cas, X.clock, X.frames, X.room, X.hears, X.method, X.code, (X.here.setHeapUsed s₂.heap s₂.slotsUsed).setVm hW'.alike, X.tail, State.WarmedH.trans X.warmed hW', X.limits, X.bytes, X.same.trans (hsame.setVm (s.setVm vm0).vm)⟩,
    ⟨L, hq, rfl, rfl, rfl⟩, ?_⟩
  show Steps p.tables e below _ ((({ U with heap := s₂.heap, slotsUsed := s₂.slotsUsed } : State).setVm s₂.vm).setTop { g with pc := g.pc + len₂, stack := v.toList ++ g.stack })
  rw [← hs₂]
  exact hsteps
theorem capFit {C : String} {a : Addr} : ∀ (i : Nat) (t : FieldType) (w : Value), [FieldType.object C][i]? = some t → [Value.ref a][i]? = some w → narrow t w = w ∧ fits t w = true := fun i t w h1 h2 => by
  cases i with
  | zero => cases h1; cases h2; exact ⟨rfl, rfl⟩
  | succ j => simp at h2
end Lam4
end Jvm.OwnKit
/- laws to paste: Road.backV (cut by pick.py; bodies as the Statement names them) -/
namespace Jvm.Pilot.@@N@@
namespace StrChars
open Jvm Sem ClassFile Op Lib Jvm.Stand Jvm.Free.XT Jvm.Free.ALB Jvm.Free.JM Jvm.Free
open Jvm.Lib.Cold (StaticIs)
/-- a char array whose places are chars -/
def Ch (a : Addr) (A : Cell) (U : State) : Prop := Arr .char a A U ∧ Typed .char A
theorem Ch.mv {a : Addr} {A : Cell} {U U' : State} (h : Ch a A U) (hal : U.vm.Alike U'.vm) (hh : U'.heap = U.heap) : Ch a A U' := ⟨h.1.mv hal hh, h.2⟩
theorem Ch.keep {a : Addr} {A : Cell} {U U' : State} (h : Ch a A U) (hal : U.vm.Alike U'.vm) (hk : U'.heap[a]? = some A) : Ch a A U' := ⟨h.1.keep hal hk, h.2⟩
/-- what place i of a char[]'s cell holds -/
def cv (A : Cell) (i : Nat) : Int32 := match A.slots[i]? with | some (.int x) => x | _ => 0
theorem Ch.get {a : Addr} {A : Cell} {U : State} (h : Ch a A U) {i : Nat} (hi : i < A.slots.size) : A.slots[i]? = some (.int (cv A i)) := by
  have e := Array.getElem?_eq_getElem hi
  have f := h.2 i _ e
  unfold cv; rw [e]
  generalize A.slots[i] = v at f
  cases v <;> simp [fits] at f ⊢
/-- the byte that i2b leaves of a char -/
def lo8 (x : Int32) : Int32 := x.toInt8.toInt32
theorem fits_lo8 (y : Int32) : fits .byte (.int (lo8 y)) = true := by
  have h1 := y.toInt8.le_toInt
  have h2 := y.toInt8.toInt_lt
  simp only [lo8, fits, Bool.and_eq_true, decide_eq_true_eq, Int32.le_iff_toInt_le, Int8.toInt_toInt32, show (-128 : Int32).toInt = -128 from by decide, show (127 : Int32).toInt = 127 from by decide]
  omega
/-- A' is A but that each place j of lo .. hi - 1 holds f j -/
def Laid (A A' : Cell) (lo hi : Nat) (f : Nat → Value) : Prop := A'.cls = A.cls ∧ A'.vm = A.vm ∧ A'.slots.size = A.slots.size ∧ ∀ i, A'.slots[i]? = if lo ≤ i ∧ i < hi then some (f i) else A.slots[i]?
theorem Laid.zero (A : Cell) (lo : Nat) (f : Nat → Value) : Laid A A lo (lo + 0) f := ⟨rfl, rfl, rfl, fun i => by rw [if_neg (by omega)]⟩
theorem Laid.step {A Ak : Cell} {lo k : Nat} {f : Nat → Value} {v : Value} (h : Laid A Ak lo k f) (hlo : lo ≤ k) (hk : k < Ak.slots.size) (hv : v = f k) : Laid A (Ak.setSlot k v) lo (k + 1) f := by
  refine ⟨h.1, h.2.1, by simpa [Cell.setSlot] using h.2.2.1, fun i => ?_⟩
  by_cases e : k = i
  · subst e; rw [Cell.slots_setSlot_self v hk, if_pos (by omega), hv]
  · rw [Cell.slots_setSlot_ne v e, h.2.2.2 i]
    by_cases q : lo ≤ i ∧ i < k
    · rw [if_pos q, if_pos (by omega)]
    · rw [if_neg q, if_neg (by omega)]
def U16 : String := "java/lang/StringUTF16"
namespace Cmp5
def yN : MethodName := ⟨"java/lang/StringUTF16", "compress", "([CI[BII)I"⟩
abbrev yB : ByteArray := jdk_52_method_21_code
theorem d0 : decode yB 0 = .ok (.iconst 0, 1) := by decide +kernel
theorem d1 : decode yB 1 = .ok (.istore 5, 2) := by decide +kernel
theorem d3 : decode yB 3 = .ok (.iload 5, 2) := by decide +kernel
theorem d5 : decode yB 5 = .ok (.iload 4, 2) := by decide +kernel
theorem d7 : decode yB 7 = .ok (.if_icmp (.ge) 37, 3) := by decide +kernel
theorem d10 : decode yB 10 = .ok (.aload_n 0, 1) := by decide +kernel
theorem d11 : decode yB 11 = .ok (.iload_n 1, 1) := by decide +kernel
theorem d12 : decode yB 12 = .ok (.caload, 1) := by decide +kernel
theorem d13 : decode yB 13 = .ok (.istore 6, 2) := by decide +kernel
theorem d15 : decode yB 15 = .ok (.iload 6, 2) := by decide +kernel
theorem d17 : decode yB 17 = .ok (.sipush 255, 3) := by decide +kernel
theorem d20 : decode yB 20 = .ok (.if_icmp (.le) 6, 3) := by decide +kernel
theorem d26 : decode yB 26 = .ok (.aload_n 2, 1) := by decide +kernel
theorem d27 : decode yB 27 = .ok (.iload_n 3, 1) := by decide +kernel
theorem d28 : decode yB 28 = .ok (.iload 6, 2) := by decide +kernel
theorem d30 : decode yB 30 = .ok (.i2b, 1) := by decide +kernel
theorem d31 : decode yB 31 = .ok (.bastore, 1) := by decide +kernel
theorem d32 : decode yB 32 = .ok (.iinc 1 1, 3) := by decide +kernel
theorem d35 : decode yB 35 = .ok (.iinc 3 1, 3) := by decide +kernel
theorem d38 : decode yB 38 = .ok (.iinc 5 1, 3) := by decide +kernel
theorem d41 : decode yB 41 = .ok (.goto (-38), 3) := by decide +kernel
theorem d44 : decode yB 44 = .ok (.iload 4, 2) := by decide +kernel
theorem d46 : decode yB 46 = .ok (.ireturn, 1) := by decide +kernel
def site : List Cond := []
def tab : Cond := tabOf yN yB 7 (some .int) site
def P (b : Addr) (A : Cell) (d : Addr) (B : Cell) (o q len : Nat) (args : Array Value) (s : State) : Prop := args = #[.ref b, .int (Int32.ofNat o), .ref d, .int (Int32.ofNat q), .int (Int32.ofNat len)] ∧ Ch b A s ∧ Arr .byte d B s ∧ b ≠ d ∧ o + len ≤ A.slots.size ∧ q + len ≤ B.slots.size ∧ ∀ i, i < len → ¬ 255 < cv A (o + i)
def E (b : Addr) (A : Cell) (d : Addr) (B : Cell) (o q len : Nat) (r : Option Value) (s u : State) : Prop := r = some (.int (Int32.ofNat len)) ∧ ∃ B', Put d B' s u ∧ Laid B B' q (q + len) (fun j => Value.int (lo8 (cv A (o + (j - q)))))
/-- no char of the range above 255: len; the places written hold each char's low byte -/
theorem law (l : Launch) (b : Addr) (A : Cell) (d : Addr) (B : Cell) (o q len : Nat) : Law l yN 5 5 0 0 yB 7 (some .int) site (P b A d B o q len) (E b A d B o q len) (copyLocs d q len) 0 0 := by
  refine Law.of_walk (plainFor_of_name (by decide +kernel)) (by decide +kernel) (by decide +kernel) (by decide) (fun _ _ h => by rw [h.1]; rfl) (fun _ U U' hal hh h => ⟨h.1, h.2.1.mv hal hh, h.2.2.1.mv hal hh, h.2.2.2⟩) (fun r U U' V V' h1 hal h2 h => ⟨h.1, h.2.elim fun B' q => ⟨B', q.1.mv h1 h2, q.2⟩⟩) ?_
  intro p e s m args below meth c s₁ X0 hexec hbytes hml hret hlk hnm hown hh0 W hP
  obtain ⟨rfl, hA, hB, hne, l1, l2, hp⟩ := hP
  have c1 : Steps p.tables e below (s₁.setTop (entryFrame m #[.ref b, .int (Int32.ofNat o), .ref d, .int (Int32.ofNat q), .int (Int32.ofNat len)] 7)) (s₁.setTop (mkF m 0 #[.val (.ref b), .val (.int (Int32.ofNat o)), .val (.ref d), .val (.int (Int32.ofNat q)), .val (.int (Int32.ofNat len)), .unset, .unset] [])) := entry rfl
  have hA0 := hA.1.mv X0.warmed.alike hh0
  have hB0 := hB.mv X0.warmed.alike hh0
  have a31 := hA.1.2.2.2
  have c2 : Steps p.tables e below (s₁.setTop (entryFrame m #[.ref b, .int (Int32.ofNat o), .ref d, .int (Int32.ofNat q), .int (Int32.ofNat len)] 7)) (s₁.setTop (mkF m 3 #[.val (.ref b), .val (.int (Int32.ofNat o)), .val (.ref d), .val (.int (Int32.ofNat q)), .val (.int (Int32.ofNat len)), .val (.int 0), .unset] [])) := c1.trans (by
    refine iconstV X0.here hexec rfl 0 (hb hbytes d0) (by decide) ?_
    refine XS.istore X0.here hexec rfl (hb hbytes d1) rfl rfl ?_
    exact Steps.refl _)
  have loop : ∀ (r i : Nat), i + r = len → ∀ (z : Slot), (z = .unset ∨ ∃ w, z = .val w ∧ w.category = 1) → ∀ (Tl : State) (Bk : Cell), Stand p l e { frames := 0, locals := 0, cells := 0, slots := 0 } s m #[.ref b, .int (Int32.ofNat o), .ref d, .int (Int32.ofNat q), .int (Int32.ofNat len)] below meth c Tl ([] ++ copyLocs d q i) 0 0 → Put d Bk s₁ Tl → Laid B Bk q (q + i) (fun j => Value.int (lo8 (cv A (o + (j - q))))) →
      Steps p.tables e below (s₁.setTop (entryFrame m #[.ref b, .int (Int32.ofNat o), .ref d, .int (Int32.ofNat q), .int (Int32.ofNat len)] 7)) (Tl.setTop (mkF m 3 #[.val (.ref b), .val (.int (Int32.ofNat (o + i))), .val (.ref d), .val (.int (Int32.ofNat (q + i))), .val (.int (Int32.ofNat len)), .val (.int (Int32.ofNat i)), z] [])) → ∃ (T' : State) (B' : Cell) (z' : Slot), Stand p l e { frames := 0, locals := 0, cells := 0, slots := 0 } s m #[.ref b, .int (Int32.ofNat o), .ref d, .int (Int32.ofNat q), .int (Int32.ofNat len)] below meth c T' ([] ++ copyLocs d q len) 0 0 ∧ Put d B' s₁ T' ∧ Laid B B' q (q + len) (fun j => Value.int (lo8 (cv A (o + (j - q))))) ∧
      Steps p.tables e below (s₁.setTop (entryFrame m #[.ref b, .int (Int32.ofNat o), .ref d, .int (Int32.ofNat q), .int (Int32.ofNat len)] 7)) (T'.setTop (mkF m 3 #[.val (.ref b), .val (.int (Int32.ofNat (o + len))), .val (.ref d), .val (.int (Int32.ofNat (q + len))), .val (.int (Int32.ofNat len)), .val (.int (Int32.ofNat len)), z'] [])) := by
    intro r
    induction r with
    | zero =>
      intro i hi z hz Tl Bk Xl pl fl cl
      have hil : i = len := by omega
      rw [hil] at Xl fl cl
      exact ⟨Tl, Bk, z, Xl, pl, fl, cl⟩
    | succ r ih =>
      intro i hi z hz Tl Bk Xl pl fl cl
      have all := X0.warmed.alike.symm.trans Xl.warmed.alike
      have hAl := hA0.keep all (pl.other hne hA0.1)
      have hBk := hB0.like all pl.1 fl.1 fl.2.1 fl.2.2.1
      have hlt : q + i < Bk.slots.size := by rw [fl.2.2.1]; omega
      have c3 : Steps p.tables e below (s₁.setTop (entryFrame m #[.ref b, .int (Int32.ofNat o), .ref d, .int (Int32.ofNat q), .int (Int32.ofNat len)] 7)) (Tl.setTop (mkF m 12 #[.val (.ref b), .val (.int (Int32.ofNat (o + i))), .val (.ref d), .val (.int (Int32.ofNat (q + i))), .val (.int (Int32.ofNat len)), .val (.int (Int32.ofNat i)), z] [.int (Int32.ofNat (o + i)), .ref b])) := cl.trans (by
        refine XS.iload Xl.here hexec rfl (hb hbytes d3) rfl ?_
        refine XS.iload Xl.here hexec rfl (hb hbytes d5) rfl ?_
        refine XS.icmpNo Xl.here hexec rfl (hb hbytes d7) rfl (ii_ge_f (lt32 (by omega) (by omega))) ?_
        refine XS.aloadN Xl.here hexec rfl (hb hbytes d10) rfl rfl ?_
        refine XS.iloadN Xl.here hexec rfl (hb hbytes d11) rfl ?_
        exact Steps.refl _)
      have c4 : Steps p.tables e below (s₁.setTop (entryFrame m #[.ref b, .int (Int32.ofNat o), .ref d, .int (Int32.ofNat q), .int (Int32.ofNat len)] 7)) (Tl.setTop (mkF m 13 #[.val (.ref b), .val (.int (Int32.ofNat (o + i))), .val (.ref d), .val (.int (Int32.ofNat (q + i))), .val (.int (Int32.ofNat len)), .val (.int (Int32.ofNat i)), z] [.int (cv A (o + i))])) := c3.trans (by
        refine Xl.aget hexec hAl rfl (hA.get (i := o + i) (by omega)) rfl rfl (hb hbytes d12) ?_
        exact Steps.refl _)
      have c5 : Steps p.tables e below (s₁.setTop (entryFrame m #[.ref b, .int (Int32.ofNat o), .ref d, .int (Int32.ofNat q), .int (Int32.ofNat len)] 7)) (Tl.setTop (mkF m 15 #[.val (.ref b), .val (.int (Int32.ofNat (o + i))), .val (.ref d), .val (.int (Int32.ofNat (q + i))), .val (.int (Int32.ofNat len)), .val (.int (Int32.ofNat i)), .val (.int (cv A (o + i)))] [])) := c4.trans (by
        refine XS.istoreS Xl.here hexec rfl (hb hbytes d13) rfl rfl hz ?_
        exact Steps.refl _)
      have c6 : Steps p.tables e below (s₁.setTop (entryFrame m #[.ref b, .int (Int32.ofNat o), .ref d, .int (Int32.ofNat q), .int (Int32.ofNat len)] 7)) (Tl.setTop (mkF m 31 #[.val (.ref b), .val (.int (Int32.ofNat (o + i))), .val (.ref d), .val (.int (Int32.ofNat (q + i))), .val (.int (Int32.ofNat len)), .val (.int (Int32.ofNat i)), .val (.int (cv A (o + i)))] [.int (lo8 (cv A (o + i))), .int (Int32.ofNat (q + i)), .ref d])) := c5.trans (by
        refine XS.iload Xl.here hexec rfl (hb hbytes d15) rfl ?_
        refine sipushV Xl.here hexec rfl 255 (hb hbytes d17) (by decide) ?_
        refine XS.icmpYes Xl.here hexec rfl (pc0 := 20) rfl (hb hbytes d20) rfl (ii_le_t (hp i (by omega))) (by decide) rfl ?_
        refine XS.aloadN Xl.here hexec rfl (hb hbytes d26) rfl rfl ?_
        refine XS.iloadN Xl.here hexec rfl (hb hbytes d27) rfl ?_
        refine XS.iload Xl.here hexec rfl (hb hbytes d28) rfl ?_
        refine i2b Xl.here hexec rfl (hb hbytes d30) rfl ?_
        exact Steps.refl _)
      obtain ⟨T7, X7, p7, st7⟩ := Xl.aput hexec hBk rfl hlt rfl (fits_lo8 (cv A (o + i))) (g := (mkF m 31 #[.val (.ref b), .val (.int (Int32.ofNat (o + i))), .val (.ref d), .val (.int (Int32.ofNat (q + i))), .val (.int (Int32.ofNat len)), .val (.int (Int32.ofNat i)), .val (.int (cv A (o + i)))] [.int (lo8 (cv A (o + i))), .int (Int32.ofNat (q + i)), .ref d])) rfl (rest := []) rfl (hb hbytes d31)
      have c8 : Steps p.tables e below (s₁.setTop (entryFrame m #[.ref b, .int (Int32.ofNat o), .ref d, .int (Int32.ofNat q), .int (Int32.ofNat len)] 7)) (T7.setTop (mkF m 32 #[.val (.ref b), .val (.int (Int32.ofNat (o + i))), .val (.ref d), .val (.int (Int32.ofNat (q + i))), .val (.int (Int32.ofNat len)), .val (.int (Int32.ofNat i)), .val (.int (cv A (o + i)))] [])) := c6.trans (st7 _ (Steps.refl _))
      have c9 : Steps p.tables e below (s₁.setTop (entryFrame m #[.ref b, .int (Int32.ofNat o), .ref d, .int (Int32.ofNat q), .int (Int32.ofNat len)] 7)) (T7.setTop (mkF m 3 #[.val (.ref b), .val (.int (Int32.ofNat (o + i) + 1)), .val (.ref d), .val (.int (Int32.ofNat (q + i) + 1)), .val (.int (Int32.ofNat len)), .val (.int (Int32.ofNat i + 1)), .val (.int (cv A (o + i)))] [])) := c8.trans (by
        refine iincV X7.here hexec rfl 1 (hb hbytes d32) (by decide) rfl rfl ?_
        refine iincV X7.here hexec rfl 1 (hb hbytes d35) (by decide) rfl rfl ?_
        refine iincV X7.here hexec rfl 1 (hb hbytes d38) (by decide) rfl rfl ?_
        refine XS.goto X7.here hexec rfl (pc0 := 41) rfl (hb hbytes d41) (by decide) rfl ?_
        exact Steps.refl _)
      have c10 : Steps p.tables e below (s₁.setTop (entryFrame m #[.ref b, .int (Int32.ofNat o), .ref d, .int (Int32.ofNat q), .int (Int32.ofNat len)] 7)) (T7.setTop (mkF m 3 #[.val (.ref b), .val (.int (Int32.ofNat (o + (i + 1)))), .val (.ref d), .val (.int (Int32.ofNat (q + (i + 1)))), .val (.int (Int32.ofNat len)), .val (.int (Int32.ofNat (i + 1))), .val (.int (cv A (o + i)))] [])) := by
        have := c9
        rw [succ32, succ32, succ32] at this
        exact this
      exact ih (i + 1) (by omega) _ (Or.inr ⟨_, rfl, rfl⟩) T7 _ (by rw [copyLocs_step, ← List.append_assoc]; exact X7) (pl.trans p7) (fl.step (by omega) hlt (by simp)) c10
  obtain ⟨T9, B9, z9, X9, p9, f9, g9⟩ := loop len 0 (by omega) .unset (Or.inl rfl) s₁ B (by simpa [copyLocs] using X0) ⟨hB0.1, fun _ _ => rfl, rfl⟩ (Laid.zero _ _ _) c2
  have c11 : Steps p.tables e below (s₁.setTop (entryFrame m #[.ref b, .int (Int32.ofNat o), .ref d, .int (Int32.ofNat q), .int (Int32.ofNat len)] 7)) (T9.setTop (mkF m 46 #[.val (.ref b), .val (.int (Int32.ofNat (o + len))), .val (.ref d), .val (.int (Int32.ofNat (q + len))), .val (.int (Int32.ofNat len)), .val (.int (Int32.ofNat len)), z9] [.int (Int32.ofNat len)])) := g9.trans (by
    refine XS.iload X9.here hexec rfl (hb hbytes d3) rfl ?_
    refine XS.iload X9.here hexec rfl (hb hbytes d5) rfl ?_
    refine XS.icmpYes X9.here hexec rfl (pc0 := 7) rfl (hb hbytes d7) rfl (ii_ge_t (nlt32 (by omega) (Nat.le_refl _))) (by decide) rfl ?_
    refine XS.iload X9.here hexec rfl (hb hbytes d44) rfl ?_
    exact Steps.refl _)
  exact ⟨T9, some (.int (Int32.ofNat len)), _, _, _, X9, by simp, rfl, rfl, (fun h => by cases h), ⟨rfl, B9, p9.from hh0, f9⟩, fun fs hl => c11.trans (X9.ireturnOut hexec hret rfl (Or.inl rfl) (hb hbytes d46) hl)⟩
end Cmp5
namespace Cmp3
def yN : MethodName := ⟨"java/lang/StringUTF16", "compress", "([CII)[B"⟩
abbrev yB : ByteArray := jdk_52_method_16_code
theorem d0 : decode yB 0 = .ok (.iload_n 2, 1) := by decide +kernel
theorem d1 : decode yB 1 = .ok (.newarray .byte, 2) := by decide +kernel
theorem d3 : decode yB 3 = .ok (.astore_n 3, 1) := by decide +kernel
theorem d4 : decode yB 4 = .ok (.aload_n 0, 1) := by decide +kernel
theorem d5 : decode yB 5 = .ok (.iload_n 1, 1) := by decide +kernel
theorem d6 : decode yB 6 = .ok (.aload_n 3, 1) := by decide +kernel
theorem d7 : decode yB 7 = .ok (.iconst 0, 1) := by decide +kernel
theorem d8 : decode yB 8 = .ok (.iload_n 2, 1) := by decide +kernel
theorem d9 : decode yB 9 = .ok (.invokestatic 115, 3) := by decide +kernel
theorem d12 : decode yB 12 = .ok (.istore 4, 2) := by decide +kernel
theorem d14 : decode yB 14 = .ok (.iload 4, 2) := by decide +kernel
theorem d16 : decode yB 16 = .ok (.iload_n 2, 1) := by decide +kernel
theorem d17 : decode yB 17 = .ok (.if_icmp (.eq) 40, 3) := by decide +kernel
theorem d57 : decode yB 57 = .ok (.aload_n 3, 1) := by decide +kernel
theorem d58 : decode yB 58 = .ok (.areturn, 1) := by decide +kernel
def site : List Cond := [.arrayClass .byte, Cmp5.tab] ++ staticW U16 115 Cmp5.yN
def tab : Cond := tabOf yN yB 6 (some (.array .byte)) site
def P (b : Addr) (A : Cell) (o len : Nat) (args : Array Value) (s : State) : Prop := args = #[.ref b, .int (Int32.ofNat o), .int (Int32.ofNat len)] ∧ Ch b A s ∧ o + len ≤ A.slots.size ∧ len ≤ 536870912 ∧ ∀ i, i < len → ¬ 255 < cv A (o + i)
def E (b : Addr) (A : Cell) (o len : Nat) (r : Option Value) (s u : State) : Prop := NewArr .byte "[B" len (fun j => .int (lo8 (cv A (o + j)))) r s u ∧ u.heap.size = s.heap.size + 1
/-- no char of the range above 255: a new byte[] of their low bytes -/
theorem law (l : Launch) (b : Addr) (A : Cell) (o len : Nat) : Law l yN 3 3 1 18 yB 6 (some (.array .byte)) site (P b A o len) (E b A o len) [] 1 len := by
  refine Law.of_walk (plainFor_of_name (by decide +kernel)) (by decide +kernel) (by decide +kernel) (by decide) (fun _ _ h => by rw [h.1]; rfl) (fun _ U U' hal hh h => ⟨h.1, h.2.1.mv hal hh, h.2.2⟩) (fun r U U' V V' h1 hal h2 h => ⟨NewArr.mv r U U' V V' h1 hal h2 h.1, by rw [h1, h2]; exact h.2⟩) ?_
  intro p e s m args below meth c s₁ X0 hexec hbytes hml hret hlk hnm hown hh0 W hP
  obtain ⟨rfl, hA, l1, l2, hp⟩ := hP
  have a31 := hA.1.2.2.2
  have c1 : Steps p.tables e below (s₁.setTop (entryFrame m #[.ref b, .int (Int32.ofNat o), .int (Int32.ofNat len)] 6)) (s₁.setTop (mkF m 0 #[.val (.ref b), .val (.int (Int32.ofNat o)), .val (.int (Int32.ofNat len)), .unset, .unset, .unset] [])) := entry rfl
  have c2 : Steps p.tables e below (s₁.setTop (entryFrame m #[.ref b, .int (Int32.ofNat o), .int (Int32.ofNat len)] 6)) (s₁.setTop (mkF m 1 #[.val (.ref b), .val (.int (Int32.ofNat o)), .val (.int (Int32.ofNat len)), .unset, .unset, .unset] [.int (Int32.ofNat len)])) := c1.trans (by
    refine XS.iloadN X0.here hexec rfl (hb hbytes d0) rfl ?_
    exact Steps.refl _)
  obtain ⟨T3, B3, X3, ba3, bs3, bv3, bh3, bf3, st3⟩ := X0.anew hexec (atype := .byte) (wk W (.arrayClass .byte)) rfl (by show len * 1 ≤ _; omega) (by omega) (g := (mkF m 1 #[.val (.ref b), .val (.int (Int32.ofNat o)), .val (.int (Int32.ofNat len)), .unset, .unset, .unset] [.int (Int32.ofNat len)])) rfl (hb hbytes d1) (rest := []) rfl (Nat.le_refl _) (by show 0 + len ≤ len; omega)
  rw [hh0] at ba3 st3
  have kp3 : XT.Kept s T3 := (XT.Kept.of_eq hh0).push bh3
  have hA3 := hA.keep X3.warmed.alike (kp3 _ _ hA.1.1)
  have hne : b ≠ s.heap.size := hA.1.ne
  have c4 : Steps p.tables e below (s₁.setTop (entryFrame m #[.ref b, .int (Int32.ofNat o), .int (Int32.ofNat len)] 6)) (T3.setTop (mkF m 3 #[.val (.ref b), .val (.int (Int32.ofNat o)), .val (.int (Int32.ofNat len)), .unset, .unset, .unset] [.ref s.heap.size])) := c2.trans (st3 _ (Steps.refl _))
  have c5 : Steps p.tables e below (s₁.setTop (entryFrame m #[.ref b, .int (Int32.ofNat o), .int (Int32.ofNat len)] 6)) (T3.setTop (mkF m 9 #[.val (.ref b), .val (.int (Int32.ofNat o)), .val (.int (Int32.ofNat len)), .val (.ref s.heap.size), .unset, .unset] [.int (Int32.ofNat len), .int 0, .ref s.heap.size, .int (Int32.ofNat o), .ref b])) := c4.trans (by
    refine XS.astoreN X3.here hexec rfl (hb hbytes d3) rfl rfl rfl ?_
    refine XS.aloadN X3.here hexec rfl (hb hbytes d4) rfl rfl ?_
    refine XS.iloadN X3.here hexec rfl (hb hbytes d5) rfl ?_
    refine XS.aloadN X3.here hexec rfl (hb hbytes d6) rfl rfl ?_
    refine iconstV X3.here hexec rfl 0 (hb hbytes d7) (by decide) ?_
    refine XS.iloadN X3.here hexec rfl (hb hbytes d8) rfl ?_
    exact Steps.refl _)
  obtain ⟨v6, T6, X6, E6, g6⟩ := X3.callS hexec (Cmp5.law l b A s.heap.size B3 o 0 len) hown (wks W (staticW U16 115 Cmp5.yN)) (wk W Cmp5.tab) (W := 0) (Nat.le_of_ble_eq_true rfl) (Nat.le_of_ble_eq_true rfl) (Nat.le_refl _) (by show 0 + len + 0 ≤ len; omega) (g := (mkF m 9 #[.val (.ref b), .val (.int (Int32.ofNat o)), .val (.int (Int32.ofNat len)), .val (.ref s.heap.size), .unset, .unset] [.int (Int32.ofNat len), .int (Int32.ofNat 0), .ref s.heap.size, .int (Int32.ofNat o), .ref b])) rfl (by rw [hml]; rfl) c5 (argsL := [.ref b, .int (Int32.ofNat o), .ref s.heap.size, .int (Int32.ofNat 0), .int (Int32.ofNat len)]) (rest := []) rfl rfl (by show 2 * 0 + 0 ≤ _; decide) (hb hbytes d9) (⟨rfl, hA3, ba3, hne, l1, by rw [bs3]; simp, hp⟩)
  obtain ⟨rfl, B6, p6, f6⟩ := E6
  have c7 : Steps p.tables e below (s₁.setTop (entryFrame m #[.ref b, .int (Int32.ofNat o), .int (Int32.ofNat len)] 6)) (T6.setTop (mkF m 12 #[.val (.ref b), .val (.int (Int32.ofNat o)), .val (.int (Int32.ofNat len)), .val (.ref s.heap.size), .unset, .unset] [.int (Int32.ofNat len)])) := g6
  have c8 : Steps p.tables e below (s₁.setTop (entryFrame m #[.ref b, .int (Int32.ofNat o), .int (Int32.ofNat len)] 6)) (T6.setTop (mkF m 58 #[.val (.ref b), .val (.int (Int32.ofNat o)), .val (.int (Int32.ofNat len)), .val (.ref s.heap.size), .val (.int (Int32.ofNat len)), .unset] [.ref s.heap.size])) := c7.trans (by
    refine XS.istore X6.here hexec rfl (hb hbytes d12) rfl rfl ?_
    refine XS.iload X6.here hexec rfl (hb hbytes d14) rfl ?_
    refine XS.iloadN X6.here hexec rfl (hb hbytes d16) rfl ?_
    refine XS.icmpYes X6.here hexec rfl (pc0 := 17) rfl (hb hbytes d17) rfl (ii_eq_t rfl) (by decide) rfl ?_
    refine XS.aloadN X6.here hexec rfl (hb hbytes d57) rfl rfl ?_
    exact Steps.refl _)
  have X8 := X6.wide (L' := []) (cells' := 1) (slots' := len) (fun x hx hlt => by
    simp only [List.nil_append, copyLocs, List.mem_map, List.mem_range] at hx
    obtain ⟨i, -, rfl⟩ := hx
    exact absurd hlt (Nat.lt_irrefl _)) (Nat.le_refl _) (by omega)
  exact ⟨T6, some (.ref s.heap.size), _, _, _, X8, rfl, rfl, rfl, (fun h => by cases h), ⟨⟨rfl, B6, ba3.like (X3.warmed.alike.symm.trans X6.warmed.alike) p6.1 f6.1 f6.2.1 f6.2.2.1, f6.2.1.trans bv3, by rw [X6.warmed.alike.findClass, f6.1]; exact bf3, by rw [f6.2.2.1, bs3]; simp, fun j hj => by rw [f6.2.2.2 j, if_pos (by omega)]; rfl, kp3.put p6 (Nat.le_refl _)⟩, by rw [p6.2.2, bh3, hh0]; simp⟩, fun fs hl => c8.trans (X8.areturnOut hexec rfl hret rfl (hb hbytes d58) hl)⟩
end Cmp3
namespace CodL
def yN : MethodName := ⟨"java/lang/StringUTF16", "coderFromArrayLen", "([BI)B"⟩
abbrev yB : ByteArray := jdk_52_method_15_code
theorem d0 : decode yB 0 = .ok (.iload_n 1, 1) := by decide +kernel
theorem d1 : decode yB 1 = .ok (.aload_n 0, 1) := by decide +kernel
theorem d2 : decode yB 2 = .ok (.arraylength, 1) := by decide +kernel
theorem d3 : decode yB 3 = .ok (.isub, 1) := by decide +kernel
theorem d4 : decode yB 4 = .ok (.bipush 31, 2) := by decide +kernel
theorem d6 : decode yB 6 = .ok (.iushr, 1) := by decide +kernel
theorem d7 : decode yB 7 = .ok (.i2b, 1) := by decide +kernel
theorem d8 : decode yB 8 = .ok (.ireturn, 1) := by decide +kernel
def site : List Cond := []
def tab : Cond := tabOf yN yB 2 (some .byte) site
def P (d : Addr) (B : Cell) (args : Array Value) (s : State) : Prop := args = #[.ref d, .int (Int32.ofNat B.slots.size)] ∧ Arr .byte d B s
def E (r : Option Value) (s u : State) : Prop := XT.PureE (some (.int 0)) r s u
/-- an array as long as the number of chars: LATIN1 -/
theorem law (l : Launch) (d : Addr) (B : Cell) : Law l yN 2 2 0 0 yB 2 (some .byte) site (P d B) E [] 0 0 := by
  refine Law.of_walk (plainFor_of_name (by decide +kernel)) (by decide +kernel) (by decide +kernel) (by decide) (fun _ _ h => by rw [h.1]; rfl) (fun _ U U' hal hh h => ⟨h.1, h.2.mv hal hh⟩) (fun r U U' V V' h1 hal h2 h => XT.PureE.mv r U U' V V' h1 hal h2 h) ?_
  intro p e s m args below meth c s₁ X0 hexec hbytes hml hret hlk hnm hown hh0 W hP
  obtain ⟨rfl, hB⟩ := hP
  have hB0 := hB.mv X0.warmed.alike hh0
  have c1 : Steps p.tables e below (s₁.setTop (entryFrame m #[.ref d, .int (Int32.ofNat B.slots.size)] 2)) (s₁.setTop (mkF m 0 #[.val (.ref d), .val (.int (Int32.ofNat B.slots.size))] [])) := entry rfl
  have c2 : Steps p.tables e below (s₁.setTop (entryFrame m #[.ref d, .int (Int32.ofNat B.slots.size)] 2)) (s₁.setTop (mkF m 2 #[.val (.ref d), .val (.int (Int32.ofNat B.slots.size))] [.ref d, .int (Int32.ofNat B.slots.size)])) := c1.trans (by
    refine XS.iloadN X0.here hexec rfl (hb hbytes d0) rfl ?_
    refine XS.aloadN X0.here hexec rfl (hb hbytes d1) rfl rfl ?_
    exact Steps.refl _)
  have c3 : Steps p.tables e below (s₁.setTop (entryFrame m #[.ref d, .int (Int32.ofNat B.slots.size)] 2)) (s₁.setTop (mkF m 8 #[.val (.ref d), .val (.int (Int32.ofNat B.slots.size))] [.int (lo8 (ushr (Int32.ofNat B.slots.size - Int32.ofNat B.slots.size) 31))])) := c2.trans (by
    refine X0.alen hexec hB0 rfl rfl (hb hbytes d2) ?_
    refine XS.isub X0.here hexec rfl (hb hbytes d3) rfl ?_
    refine bipushV X0.here hexec rfl 31 (hb hbytes d4) (by decide) ?_
    refine iushr X0.here hexec rfl (hb hbytes d6) rfl ?_
    refine i2b X0.here hexec rfl (hb hbytes d7) rfl ?_
    exact Steps.refl _)
  have e0 : lo8 (ushr (Int32.ofNat B.slots.size - Int32.ofNat B.slots.size) 31) = 0 := by rw [Int32.sub_self]; decide
  rw [e0] at c3
  exact ⟨s₁, some (.int 0), _, _, _, X0, rfl, rfl, rfl, (fun h => by cases h), ⟨rfl, hh0⟩, fun fs hl => c3.trans (X0.ireturnOut hexec hret rfl (Or.inr (Or.inr (Or.inl rfl))) (hb hbytes d8) hl)⟩
end CodL
/-- the String at a is Latin-1 over a new byte[] (the heap's one new cell): the low bytes of the len chars of A from o on; every cell but a is kept -/
def Got (a : Addr) (D : Cell) (fV fC : Field) (A : Cell) (o len : Nat) (r : Option Value) (s u : State) : Prop := r = none ∧ ∃ D' V : Cell, Blank "java/lang/String" a D' u ∧ Same D D' [fV.slot, fC.slot] ∧ D'.slots[fV.slot]? = some (.ref s.heap.size) ∧ D'.slots[fC.slot]? = some (.int 0) ∧ Arr .byte s.heap.size V u ∧ V.vm = .none ∧ u.vm.findClass "[B" = some V.cls ∧ V.slots.size = len ∧ (∀ j, j < len → V.slots[j]? = some (.int (lo8 (cv A (o + j))))) ∧ (∀ (y : Addr) (c : Cell), y ≠ a → s.heap[y]? = some c → u.heap[y]? = some c) ∧ u.heap.size = s.heap.size + 1
theorem Got.mv {a : Addr} {D A : Cell} {fV fC : Field} {o len : Nat} : ∀ r (U U' V V' : State), U'.heap = U.heap → V.vm.Alike V'.vm → V'.heap = V.heap → Got a D fV fC A o len r U V → Got a D fV fC A o len r U' V' :=
  fun r U U' V V' h1 hal h2 ⟨e0, D', X, a1, a2, a3, a4, a5, a6, a7, a8, a9, a10, a11⟩ => ⟨e0, D', X, a1.mv hal h2, a2, by rw [h1]; exact a3, a4, by rw [h1]; exact a5.mv hal h2, a6, by rw [hal.findClass]; exact a7, a8, a9, by rw [h1, h2]; exact a10, by rw [h1, h2]; exact a11⟩
namespace New4
def yN : MethodName := ⟨"java/lang/String", "<init>", "([CIILjava/lang/Void;)V"⟩
abbrev yB : ByteArray := jdk_42_method_149_code
theorem d0 : decode yB 0 = .ok (.aload_n 0, 1) := by decide +kernel
theorem d1 : decode yB 1 = .ok (.invokespecial 1, 3) := by decide +kernel
theorem d4 : decode yB 4 = .ok (.iload_n 3, 1) := by decide +kernel
theorem d5 : decode yB 5 = .ok (.ifCond (.ne) 22, 3) := by decide +kernel
theorem d27 : decode yB 27 = .ok (.getstatic 38, 3) := by decide +kernel
theorem d30 : decode yB 30 = .ok (.ifCond (.eq) 28, 3) := by decide +kernel
theorem d33 : decode yB 33 = .ok (.aload_n 1, 1) := by decide +kernel
theorem d34 : decode yB 34 = .ok (.iload_n 2, 1) := by decide +kernel
theorem d35 : decode yB 35 = .ok (.iload_n 3, 1) := by decide +kernel
theorem d36 : decode yB 36 = .ok (.invokestatic 177, 3) := by decide +kernel
theorem d39 : decode yB 39 = .ok (.astore 5, 2) := by decide +kernel
theorem d41 : decode yB 41 = .ok (.aload_n 0, 1) := by decide +kernel
theorem d42 : decode yB 42 = .ok (.aload 5, 2) := by decide +kernel
theorem d44 : decode yB 44 = .ok (.iload_n 3, 1) := by decide +kernel
theorem d45 : decode yB 45 = .ok (.invokestatic 47, 3) := by decide +kernel
theorem d48 : decode yB 48 = .ok (.putfield 15, 3) := by decide +kernel
theorem d51 : decode yB 51 = .ok (.aload_n 0, 1) := by decide +kernel
theorem d52 : decode yB 52 = .ok (.aload 5, 2) := by decide +kernel
theorem d54 : decode yB 54 = .ok (.putfield 9, 3) := by decide +kernel
theorem d57 : decode yB 57 = .ok (.return_, 1) := by decide +kernel
def site : List Cond := [.fieldLink "java/lang/String" 38 "java/lang/String" "COMPACT_STRINGS" "Z", Cmp3.tab, CodL.tab, .laysFinal "java/lang/String" "java/lang/String" "value" "[B", .fieldLink "java/lang/String" 9 "java/lang/String" "value" "[B", .laysFinal "java/lang/String" "java/lang/String" "coder" "B", .fieldLink "java/lang/String" 15 "java/lang/String" "coder" "B"] ++ objW "java/lang/String" 1 ++ staticW "java/lang/String" 177 Cmp3.yN ++ staticW "java/lang/String" 47 CodL.yN
def tab : Cond := tabOf yN yB 6 none site
def P (a : Addr) (D : Cell) (fV fC : Field) (b : Addr) (A : Cell) (z : Int32) (o len : Nat) (args : Array Value) (s : State) : Prop := args = #[.ref a, .ref b, .int (Int32.ofNat o), .int (Int32.ofNat len), .null] ∧ Blank "java/lang/String" a D s ∧ Found "java/lang/String" "value" "[B" fV s ∧ Found "java/lang/String" "coder" "B" fC s ∧ Ch b A s ∧ StaticIs s "java/lang/String" "COMPACT_STRINGS" "Z" (.int z) ∧ ¬ z = 0 ∧ 0 < len ∧ o + len ≤ A.slots.size ∧ len ≤ 536870912 ∧ ∀ i, i < len → ¬ 255 < cv A (o + i)
def E (a : Addr) (D : Cell) (fV fC : Field) (A : Cell) (o len : Nat) (r : Option Value) (s u : State) : Prop := Got a D fV fC A o len r s u
/-- len > 0, no char of the range above 255: a Latin-1 String of their low bytes -/
theorem law (l : Launch) (a : Addr) (D : Cell) (fV fC : Field) (b : Addr) (A : Cell) (z : Int32) (o len : Nat) : Law l yN 5 4 2 35 yB 6 none site (P a D fV fC b A z o len) (E a D fV fC A o len) [⟨a, fC.slot⟩, ⟨a, fV.slot⟩] 1 len := by
  refine Law.of_walk (plainFor_of_name (by decide +kernel)) (by decide +kernel) (by decide +kernel) (by decide) (fun _ _ h => by rw [h.1]; rfl) (fun _ U U' hal hh h => ⟨h.1, h.2.1.mv hal hh, h.2.2.1.al hal, h.2.2.2.1.al hal, h.2.2.2.2.1.mv hal hh, h.2.2.2.2.2.1.there hal hh, h.2.2.2.2.2.2⟩) (fun r U U' V V' h1 hal h2 h => Got.mv r U U' V V' h1 hal h2 h) ?_
  intro p e s m args below meth c s₁ X0 hexec hbytes hml hret hlk hnm hown hh0 W hP
  obtain ⟨rfl, hB, f1, f2, hA, s1, hz, l0, l1, l2, hp⟩ := hP
  have a31 := hA.1.2.2.2
  have c1 : Steps p.tables e below (s₁.setTop (entryFrame m #[.ref a, .ref b, .int (Int32.ofNat o), .int (Int32.ofNat len), .null] 6)) (s₁.setTop (mkF m 0 #[.val (.ref a), .val (.ref b), .val (.int (Int32.ofNat o)), .val (.int (Int32.ofNat len)), .val .null, .unset] [])) := entry rfl
  have c2 : Steps p.tables e below (s₁.setTop (entryFrame m #[.ref a, .ref b, .int (Int32.ofNat o), .int (Int32.ofNat len), .null] 6)) (s₁.setTop (mkF m 1 #[.val (.ref a), .val (.ref b), .val (.int (Int32.ofNat o)), .val (.int (Int32.ofNat len)), .val .null, .unset] [.ref a])) := c1.trans (by
    refine XS.aloadN X0.here hexec rfl (hb hbytes d0) rfl rfl ?_
    exact Steps.refl _)
  obtain ⟨T3, X3, q3, st3⟩ := X0.oinit hexec hown (wks W (objW "java/lang/String" 1)) (g := (mkF m 1 #[.val (.ref a), .val (.ref b), .val (.int (Int32.ofNat o)), .val (.int (Int32.ofNat len)), .val .null, .unset] [.ref a])) rfl (by rw [hml]; rfl) (rest := []) rfl (hb hbytes d1) (W := 0) (by show 2 * 0 + 0 ≤ _; decide) (Nat.le_of_ble_eq_true rfl) (Nat.le_of_ble_eq_true rfl)
  have hh3 := q3.trans hh0
  have c4 : Steps p.tables e below (s₁.setTop (entryFrame m #[.ref a, .ref b, .int (Int32.ofNat o), .int (Int32.ofNat len), .null] 6)) (T3.setTop (mkF m 27 #[.val (.ref a), .val (.ref b), .val (.int (Int32.ofNat o)), .val (.int (Int32.ofNat len)), .val .null, .unset] [])) := (c2.trans (st3 _ (Steps.refl _))).trans (by
    refine XS.iloadN X3.here hexec rfl (hb hbytes d4) rfl ?_
    refine XS.ifYes X3.here hexec rfl (pc0 := 5) rfl (hb hbytes d5) rfl (i0_ne_t (nz32 (by omega) l0)) (by decide) rfl ?_
    exact Steps.refl _)
  obtain ⟨T5, X5, q5, st5⟩ := X3.sget hexec hown (wk W (.fieldLink "java/lang/String" 38 "java/lang/String" "COMPACT_STRINGS" "Z")) s1 (fun _ _ h => by rw [hh3]; exact h) (g := (mkF m 27 #[.val (.ref a), .val (.ref b), .val (.int (Int32.ofNat o)), .val (.int (Int32.ofNat len)), .val .null, .unset] [])) rfl (hb hbytes d27)
  have hh5 := q5.trans hh3
  have c6 : Steps p.tables e below (s₁.setTop (entryFrame m #[.ref a, .ref b, .int (Int32.ofNat o), .int (Int32.ofNat len), .null] 6)) (T5.setTop (mkF m 30 #[.val (.ref a), .val (.ref b), .val (.int (Int32.ofNat o)), .val (.int (Int32.ofNat len)), .val .null, .unset] [.int z])) := c4.trans (st5 _ (Steps.refl _))
  have c7 : Steps p.tables e below (s₁.setTop (entryFrame m #[.ref a, .ref b, .int (Int32.ofNat o), .int (Int32.ofNat len), .null] 6)) (T5.setTop (mkF m 36 #[.val (.ref a), .val (.ref b), .val (.int (Int32.ofNat o)), .val (.int (Int32.ofNat len)), .val .null, .unset] [.int (Int32.ofNat len), .int (Int32.ofNat o), .ref b])) := c6.trans (by
    refine XS.ifNo X5.here hexec rfl (hb hbytes d30) rfl (i0_eq_f hz) ?_
    refine XS.aloadN X5.here hexec rfl (hb hbytes d33) rfl rfl ?_
    refine XS.iloadN X5.here hexec rfl (hb hbytes d34) rfl ?_
    refine XS.iloadN X5.here hexec rfl (hb hbytes d35) rfl ?_
    exact Steps.refl _)
  obtain ⟨v8, T8, X8, E8, g8⟩ := X5.callS hexec (Cmp3.law l b A o len) hown (wks W (staticW "java/lang/String" 177 Cmp3.yN)) (wk W Cmp3.tab) (W := 0) (Nat.le_of_ble_eq_true rfl) (Nat.le_of_ble_eq_true rfl) (Nat.le_refl _) (by show 0 + len ≤ len; omega) (g := (mkF m 36 #[.val (.ref a), .val (.ref b), .val (.int (Int32.ofNat o)), .val (.int (Int32.ofNat len)), .val .null, .unset] [.int (Int32.ofNat len), .int (Int32.ofNat o), .ref b])) rfl (by rw [hml]; rfl) c7 (argsL := [.ref b, .int (Int32.ofNat o), .int (Int32.ofNat len)]) (rest := []) rfl rfl (by show 2 * 0 + 0 ≤ _; decide) (hb hbytes d36) (⟨rfl, hA.mv X5.warmed.alike hh5, l1, l2, hp⟩)
  obtain ⟨e8, z8⟩ := E8
  obtain ⟨rfl, N, n1, n2, n3, n4, n5, n6⟩ := NewArr.mv _ T5 s _ _ hh5.symm (Vm.Alike.refl _) rfl e8
  rw [hh5] at z8
  have hB1 := hB.keep X8.warmed.alike (n6 _ _ hB.1)
  have hne : s.heap.size ≠ a := (Nat.ne_of_lt (Array.getElem?_eq_some_iff.mp hB.1).1).symm
  have c9 : Steps p.tables e below (s₁.setTop (entryFrame m #[.ref a, .ref b, .int (Int32.ofNat o), .int (Int32.ofNat len), .null] 6)) (T8.setTop (mkF m 39 #[.val (.ref a), .val (.ref b), .val (.int (Int32.ofNat o)), .val (.int (Int32.ofNat len)), .val .null, .unset] [.ref s.heap.size])) := g8
  have c10 : Steps p.tables e below (s₁.setTop (entryFrame m #[.ref a, .ref b, .int (Int32.ofNat o), .int (Int32.ofNat len), .null] 6)) (T8.setTop (mkF m 45 #[.val (.ref a), .val (.ref b), .val (.int (Int32.ofNat o)), .val (.int (Int32.ofNat len)), .val .null, .val (.ref s.heap.size)] [.int (Int32.ofNat N.slots.size), .ref s.heap.size, .ref a])) := by
    have hc : Steps p.tables e below (s₁.setTop (entryFrame m #[.ref a, .ref b, .int (Int32.ofNat o), .int (Int32.ofNat len), .null] 6)) (T8.setTop (mkF m 45 #[.val (.ref a), .val (.ref b), .val (.int (Int32.ofNat o)), .val (.int (Int32.ofNat len)), .val .null, .val (.ref s.heap.size)] [.int (Int32.ofNat len), .ref s.heap.size, .ref a])) := c9.trans (by
      refine XS.astore X8.here hexec rfl (hb hbytes d39) rfl rfl rfl ?_
      refine XS.aloadN X8.here hexec rfl (hb hbytes d41) rfl rfl ?_
      refine XS.aload X8.here hexec rfl (hb hbytes d42) rfl rfl ?_
      refine XS.iloadN X8.here hexec rfl (hb hbytes d44) rfl ?_
      exact Steps.refl _)
    rw [n4]; exact hc
  obtain ⟨v11, T11, X11, E11, g11⟩ := X8.callS hexec (CodL.law l s.heap.size N) hown (wks W (staticW "java/lang/String" 47 CodL.yN)) (wk W CodL.tab) (W := 1) (Nat.le_of_ble_eq_true rfl) (Nat.le_of_ble_eq_true rfl) (Nat.le_refl _) (by show 0 + len + 0 ≤ len; omega) (g := (mkF m 45 #[.val (.ref a), .val (.ref b), .val (.int (Int32.ofNat o)), .val (.int (Int32.ofNat len)), .val .null, .val (.ref s.heap.size)] [.int (Int32.ofNat N.slots.size), .ref s.heap.size, .ref a])) rfl (by rw [hml]; rfl) c10 (argsL := [.ref s.heap.size, .int (Int32.ofNat N.slots.size)]) (rest := [.ref a]) rfl rfl (by show 2 * 0 + (1 + 0) ≤ _; decide) (hb hbytes d45) (⟨rfl, n1⟩)
  obtain ⟨rfl, q11⟩ := E11
  have hB11 := hB1.mv (X8.warmed.alike.symm.trans X11.warmed.alike) q11
  have c12 : Steps p.tables e below (s₁.setTop (entryFrame m #[.ref a, .ref b, .int (Int32.ofNat o), .int (Int32.ofNat len), .null] 6)) (T11.setTop (mkF m 48 #[.val (.ref a), .val (.ref b), .val (.int (Int32.ofNat o)), .val (.int (Int32.ofNat len)), .val .null, .val (.ref s.heap.size)] [.int 0, .ref a])) := g11
  obtain ⟨T13, X13, p13, bl13, sl13, st13⟩ := X11.finit hexec hown (wk W (.fieldLink "java/lang/String" 15 "java/lang/String" "coder" "B")) (Or.inr ⟨_, (wk W (.laysFinal "java/lang/String" "java/lang/String" "coder" "B"))⟩) (Or.inl ⟨rfl, hnm⟩) f2 (Or.inl rfl) hB11 (t := .byte) (by decide +kernel) rfl (g := (mkF m 48 #[.val (.ref a), .val (.ref b), .val (.int (Int32.ofNat o)), .val (.int (Int32.ofNat len)), .val .null, .val (.ref s.heap.size)] [.int 0, .ref a])) rfl (rest := []) rfl (hb hbytes d48)
  have c14 : Steps p.tables e below (s₁.setTop (entryFrame m #[.ref a, .ref b, .int (Int32.ofNat o), .int (Int32.ofNat len), .null] 6)) (T13.setTop (mkF m 54 #[.val (.ref a), .val (.ref b), .val (.int (Int32.ofNat o)), .val (.int (Int32.ofNat len)), .val .null, .val (.ref s.heap.size)] [.ref s.heap.size, .ref a])) := (c12.trans (st13 _ (Steps.refl _))).trans (by
    refine XS.aloadN X13.here hexec rfl (hb hbytes d51) rfl rfl ?_
    refine XS.aload X13.here hexec rfl (hb hbytes d52) rfl rfl ?_
    exact Steps.refl _)
  obtain ⟨T15, X15, p15, bl15, sl15, st15⟩ := X13.finit hexec hown (wk W (.fieldLink "java/lang/String" 9 "java/lang/String" "value" "[B")) (Or.inr ⟨_, (wk W (.laysFinal "java/lang/String" "java/lang/String" "value" "[B"))⟩) (Or.inl ⟨rfl, hnm⟩) f1 (Or.inl rfl) bl13 (t := (.array .byte)) (by decide +kernel) rfl (g := (mkF m 54 #[.val (.ref a), .val (.ref b), .val (.int (Int32.ofNat o)), .val (.int (Int32.ofNat len)), .val .null, .val (.ref s.heap.size)] [.ref s.heap.size, .ref a])) rfl (rest := []) rfl (hb hbytes d54)
  have c16 : Steps p.tables e below (s₁.setTop (entryFrame m #[.ref a, .ref b, .int (Int32.ofNat o), .int (Int32.ofNat len), .null] 6)) (T15.setTop (mkF m 57 #[.val (.ref a), .val (.ref b), .val (.int (Int32.ofNat o)), .val (.int (Int32.ofNat len)), .val .null, .val (.ref s.heap.size)] [])) := c14.trans (st15 _ (Steps.refl _))
  have ap := apart (Or.inr ⟨_, (wk W (.laysFinal "java/lang/String" "java/lang/String" "value" "[B"))⟩) (Or.inr ⟨_, (wk W (.laysFinal "java/lang/String" "java/lang/String" "coder" "B"))⟩) f1 f2 (t₁ := .array .byte) (t₂ := .byte) (by decide +kernel) (by decide +kernel) (by decide)
  have al := X8.warmed.alike.symm.trans X15.warmed.alike
  have n7 : T11.heap[s.heap.size]? = some N := by rw [q11]; exact n1.1
  exact ⟨T15, none, _, _, _, X15, by simp, rfl, by omega, (fun _ => rfl), ⟨rfl, _, N, bl15, ((Same.refl D _).set _ (by simp)).set _ (by simp), sl15, (Cell.slots_setSlot_ne _ ap).trans sl13, n1.keep al (p15.other hne (p13.other hne n7)), n2, by rw [al.findClass]; exact n3, n4, n5, fun y c h1 h2 => p15.other h1 (p13.other h1 (by rw [q11]; exact n6 y c h2)), by rw [p15.2.2, p13.2.2, q11]; exact z8⟩, fun fs hl => c16.trans (X15.returnOut hexec hret (hb hbytes d57) hl)⟩
end New4
namespace New1
def yN : MethodName := ⟨"java/lang/String", "<init>", "([C)V"⟩
abbrev yB : ByteArray := jdk_42_method_3_code
theorem d0 : decode yB 0 = .ok (.aload_n 0, 1) := by decide +kernel
theorem d1 : decode yB 1 = .ok (.aload_n 1, 1) := by decide +kernel
theorem d2 : decode yB 2 = .ok (.iconst 0, 1) := by decide +kernel
theorem d3 : decode yB 3 = .ok (.aload_n 1, 1) := by decide +kernel
theorem d4 : decode yB 4 = .ok (.arraylength, 1) := by decide +kernel
theorem d5 : decode yB 5 = .ok (.aconst_null, 1) := by decide +kernel
theorem d6 : decode yB 6 = .ok (.invokespecial 27, 3) := by decide +kernel
theorem d9 : decode yB 9 = .ok (.return_, 1) := by decide +kernel
def site : List Cond := [New4.tab] ++ initW "java/lang/String" 27 New4.yN
def tab : Cond := tabOf yN yB 2 none site
def P (a : Addr) (D : Cell) (fV fC : Field) (b : Addr) (A : Cell) (z : Int32) (args : Array Value) (s : State) : Prop := args = #[.ref a, .ref b] ∧ Blank "java/lang/String" a D s ∧ Found "java/lang/String" "value" "[B" fV s ∧ Found "java/lang/String" "coder" "B" fC s ∧ Ch b A s ∧ StaticIs s "java/lang/String" "COMPACT_STRINGS" "Z" (.int z) ∧ ¬ z = 0 ∧ 0 < A.slots.size ∧ A.slots.size ≤ 536870912 ∧ ∀ i, i < A.slots.size → ¬ 255 < cv A i
def E (a : Addr) (D : Cell) (fV fC : Field) (A : Cell) (r : Option Value) (s u : State) : Prop := Got a D fV fC A 0 A.slots.size r s u
/-- new String(chars), not empty, no char above 255: a Latin-1 String of their low bytes -/
theorem law (l : Launch) (a : Addr) (D : Cell) (fV fC : Field) (b : Addr) (A : Cell) (z : Int32) : Law l yN 2 1 3 52 yB 2 none site (P a D fV fC b A z) (E a D fV fC A) [⟨a, fC.slot⟩, ⟨a, fV.slot⟩] 1 A.slots.size := by
  refine Law.of_walk (plainFor_of_name (by decide +kernel)) (by decide +kernel) (by decide +kernel) (by decide) (fun _ _ h => by rw [h.1]; rfl) (fun _ U U' hal hh h => ⟨h.1, h.2.1.mv hal hh, h.2.2.1.al hal, h.2.2.2.1.al hal, h.2.2.2.2.1.mv hal hh, h.2.2.2.2.2.1.there hal hh, h.2.2.2.2.2.2⟩) (fun r U U' V V' h1 hal h2 h => Got.mv r U U' V V' h1 hal h2 h) ?_
  intro p e s m args below meth c s₁ X0 hexec hbytes hml hret hlk hnm hown hh0 W hP
  obtain ⟨rfl, hB, f1, f2, hA, s1, hz, l0, l2, hp⟩ := hP
  have c1 : Steps p.tables e below (s₁.setTop (entryFrame m #[.ref a, .ref b] 2)) (s₁.setTop (mkF m 0 #[.val (.ref a), .val (.ref b)] [])) := entry rfl
  have c2 : Steps p.tables e below (s₁.setTop (entryFrame m #[.ref a, .ref b] 2)) (s₁.setTop (mkF m 6 #[.val (.ref a), .val (.ref b)] [.null, .int (Int32.ofNat A.slots.size), .int 0, .ref b, .ref a])) := c1.trans (by
    refine XS.aloadN X0.here hexec rfl (hb hbytes d0) rfl rfl ?_
    refine XS.aloadN X0.here hexec rfl (hb hbytes d1) rfl rfl ?_
    refine iconstV X0.here hexec rfl 0 (hb hbytes d2) (by decide) ?_
    refine XS.aloadN X0.here hexec rfl (hb hbytes d3) rfl rfl ?_
    refine X0.alen hexec (hA.1.mv X0.warmed.alike hh0) rfl rfl (hb hbytes d4) ?_
    refine XS.aconstNull X0.here hexec rfl (hb hbytes d5) ?_
    exact Steps.refl _)
  obtain ⟨v3, T3, X3, E3, g3⟩ := X0.callN hexec (New4.law l a D fV fC b A z 0 A.slots.size) rfl hown (wks W (initW "java/lang/String" 27 New4.yN)) (W New4.tab (by simp only [site, List.mem_cons, List.mem_append, true_or, or_true])) (W := 0) (Nat.le_of_ble_eq_true rfl) (Nat.le_of_ble_eq_true rfl) (Nat.le_refl _) (by show 0 + A.slots.size ≤ A.slots.size; omega) (g := (mkF m 6 #[.val (.ref a), .val (.ref b)] [.null, .int (Int32.ofNat A.slots.size), .int (Int32.ofNat 0), .ref b, .ref a])) rfl (by rw [hml]; rfl) c2 (argsL := [.ref b, .int (Int32.ofNat 0), .int (Int32.ofNat A.slots.size), .null]) (rest := []) rfl rfl (by show 2 * 0 + 0 ≤ _; decide) (hb hbytes d6) (⟨rfl, hB.mv X0.warmed.alike hh0, f1.al X0.warmed.alike, f2.al X0.warmed.alike, hA.mv X0.warmed.alike hh0, s1.there X0.warmed.alike hh0, hz, l0, by omega, l2, fun i hi => by rw [Nat.zero_add]; exact hp i hi⟩)
  have e0 := Got.mv _ s₁ s _ _ hh0.symm (Vm.Alike.refl _) rfl E3
  obtain rfl := e0.1
  have c4 : Steps p.tables e below (s₁.setTop (entryFrame m #[.ref a, .ref b] 2)) (T3.setTop (mkF m 9 #[.val (.ref a), .val (.ref b)] [])) := g3
  exact ⟨T3, none, _, _, _, X3, by simp, rfl, by omega, (fun _ => rfl), e0, fun fs hl => c4.trans (X3.returnOut hexec hret (hb hbytes d9) hl)⟩
theorem pays {l : Launch} {R : Room} {p : Program} {e : Env} {below : List Frame} {s : State} {sargs : Array Value} {len W : Nat} (a : Addr) (D : Cell) (fV fC : Field) (b : Addr) (A : Cell) (z : Int32) (htab : tab.before sargs s = true) (hfr : 4 ≤ R.frames) (hlo : W + 65 ≤ R.locals) :
    Back l R p e below s sargs yN len W (fun A₁ a₁ => A₁.cells + 1 ≤ R.cells ∧ A₁.slots + A.slots.size ≤ R.slots ∧ P a D fV fC b A z a₁ A₁.U) (fun A₁ _ v₁ B₁ => E a D fV fC A v₁ A₁.U B₁.U ∧ B₁.locs = A₁.locs ++ [⟨a, fC.slot⟩, ⟨a, fV.slot⟩] ∧ B₁.cells = A₁.cells + 1 ∧ B₁.slots = A₁.slots + A.slots.size) :=
  (law l a D fV fC b A z).pays htab hfr (by omega)
end New1
end StrChars
namespace StrChars.Road
open Jvm Sem ClassFile Op Lib Jvm.Stand Jvm.Free Jvm.Free.XT
open Jvm.Lib.Cold (StaticIs)
abbrev ST : String := "java/lang/String"
/-- every table word that New1's law asks, flat -/
abbrev words : List Jvm.Cond := [.code New1.yN New1.yB 2 none, .initialized ST, .methodLink ST 27 New4.yN, .instanceMethod New4.yN,
  .code New4.yN New4.yB 6 none, .fieldLink ST 38 ST "COMPACT_STRINGS" "Z", .laysFinal ST ST "value" "[B", .fieldLink ST 9 ST "value" "[B", .laysFinal ST ST "coder" "B", .fieldLink ST 15 ST "coder" "B",
  .methodLink ST 1 Lib.objectInit, .instanceMethod Lib.objectInit, .code Lib.objectInit ⟨#[0xb1]⟩ 1 none, .methodLink ST 177 Cmp3.yN, .static Cmp3.yN, .methodLink ST 47 CodL.yN, .static CodL.yN,
  .code Cmp3.yN Cmp3.yB 6 (some (.array .byte)), .initialized U16, .arrayClass .byte, .methodLink U16 115 Cmp5.yN, .static Cmp5.yN, .code Cmp5.yN Cmp5.yB 7 (some .int), .code CodL.yN CodL.yB 2 (some .byte)]
theorem tab_of {a : Array Value} {s : State} (h : ∀ w ∈ words, w.before a s = true) : New1.tab.before a s = true := by
  have h5 : Cmp5.tab.before a s = true := unparts (wk h (.code Cmp5.yN Cmp5.yB 7 (some .int))) (wks h (.initialized Cmp5.yN.cls :: Cmp5.site))
  have hc : CodL.tab.before a s = true := unparts (wk h (.code CodL.yN CodL.yB 2 (some .byte))) (wks h (.initialized CodL.yN.cls :: CodL.site))
  have q5 : ∀ w ∈ Cmp5.tab :: words, w.before a s = true := fun w hw => (List.mem_cons.mp hw).elim (fun e => e ▸ h5) (h w)
  have h3 : Cmp3.tab.before a s = true := unparts (wk q5 (.code Cmp3.yN Cmp3.yB 6 (some (.array .byte)))) (wks q5 (.initialized Cmp3.yN.cls :: Cmp3.site))
  have q3 : ∀ w ∈ Cmp3.tab :: CodL.tab :: words, w.before a s = true := fun w hw => (List.mem_cons.mp hw).elim (fun e => e ▸ h3) fun hw => (List.mem_cons.mp hw).elim (fun e => e ▸ hc) (h w)
  have h4 : New4.tab.before a s = true := unparts (wk q3 (.code New4.yN New4.yB 6 none)) (wks q3 (.initialized New4.yN.cls :: New4.site))
  have q4 : ∀ w ∈ New4.tab :: words, w.before a s = true := fun w hw => (List.mem_cons.mp hw).elim (fun e => e ▸ h4) (h w)
  exact unparts (wk q4 (.code New1.yN New1.yB 2 none)) (wks q4 (.initialized New1.yN.cls :: New1.site))
/-- the words ride from the start Z to the walk's own state -/
theorem moved {Z s : State} {a0 args : Array Value} (hZ : Z.Warmed39 s.vm) (hw : ∀ d ∈ words, d.before a0 Z = true) : ∀ d ∈ words, d.before args s = true := fun d hd => by
  have q := hw d hd
  have t : ∀ d ∈ words, d = .arrayClass .byte ∨ (d.onTables && d.keepsFace) = true := by decide +kernel
  rcases t d hd with rfl | t
  · exact RoadKit.mvA hZ q
  · exact RoadKit.mv hZ q t
/-- WHAT COMES BACK, over the tables of the start Z: h the heap at the call, h' behind it -/
def Q (Z : State) (x : Addr) (A : Cell) (h : Heap) (v : Option Value) (h' : Heap) (L : List Loc) : Prop := v = none ∧ (∀ y ∈ L, y.base = x) ∧ RoadKit.Keep h h' [x] ∧ h'.size = h.size + 1 ∧ RoadKit.Exa Z h' x ST ∧ RoadKit.Fld Z h' x ST "value" "[B" (.ref h.size) ∧ RoadKit.Fld Z h' x ST "coder" "B" (.int 0) ∧
  (∃ V : Cell, RoadKit.Arr Z h' h.size V .byte ∧ V.vm = .none ∧ Z.vm.findClass "[B" = some V.cls ∧ V.slots.size = A.slots.size ∧ ∀ j, j < A.slots.size → V.slots[j]? = some (.int (lo8 (cv A j)))) ∧
  ∀ (O n d : String) (w : Value), RoadKit.Fld Z h x O n d w → RoadKit.slotOf Z O n d ≠ RoadKit.slotOf Z ST "value" "[B" → RoadKit.slotOf Z O n d ≠ RoadKit.slotOf Z ST "coder" "B" → RoadKit.Fld Z h' x O n d w
/-- **new String(chars) AT A CALL, IN THE ROAD'S FORM**: for specialBack behind newO: x the fresh String, b the char[] with the cell A -/
theorem back {p : Program} {l : Launch} {e : Env} {R : Room} {s : State} {args : Array Value} {below : List Frame} {len W : Nat} {Z : State} {a0 : Array Value} {h : Heap} (hZ : Z.Warmed39 s.vm) (hw : ∀ d ∈ words, d.before a0 Z = true) {kI : Nat} (wi : (Jvm.Cond.instantiable ST kI).before a0 Z = true)
    {x b : Addr} {A : Cell} {z : Int32} {v0 c0 : Value} (E : RoadKit.Exa Z h x ST) (V : RoadKit.Fld Z h x ST "value" "[B" v0) (C : RoadKit.Fld Z h x ST "coder" "B" c0) (K : RoadKit.Arr Z h b A .char) (hty : Typed .char A) (S : RoadKit.Sta Z h ST "COMPACT_STRINGS" "Z" (.int z)) (hz : ¬ z = 0)
    (l0 : 0 < A.slots.size) (l2 : A.slots.size ≤ 536870912) (hp : ∀ i, i < A.slots.size → ¬ 255 < cv A i) (hfr : 4 ≤ R.frames) (hlo : W + 65 ≤ R.locals) :
    Back l R p e below s args New1.yN len W (fun P a => a = #[.ref x, .ref b] ∧ P.U.heap = h ∧ P.cells + 1 ≤ R.cells ∧ P.slots + A.slots.size ≤ R.slots)
      (fun P _ v B => ∃ L, Q Z x A h v B.U.heap L ∧ B.locs = P.locs ++ L ∧ B.cells = P.cells + 1 ∧ B.slots = P.slots + A.slots.size) := by
  intro m meth c P g ig mk a X hg hsize hdg hW hn hp'
  obtain ⟨rfl, rfl, r1, r2⟩ := hp'
  have al : Z.vm.Alike P.U.vm := hZ.alike.trans X.warmed.alike
  obtain ⟨D, cfV, kV, iV, fV, hD, gV, stV, knV, obV, asV, slV⟩ := id V
  obtain ⟨D', cfC, kC, iC, fC, hD', gC, stC, -, -, asC, slC⟩ := id C
  cases hD.symm.trans hD'
  obtain ⟨D2, kD, e1, e2, e3, e4, e5⟩ := id E
  cases hD.symm.trans e1
  obtain ⟨c2, k2, i1, i2, i3, -⟩ := Cond.instantiable_spec wi
  cases e2.symm.trans i1
  cases e3.symm.trans i2
  obtain ⟨kU, u1, u2⟩ := al.2.2 _ _ e3
  have hB : Blank ST x D P.U := ⟨hD, ⟨knV, fun q hq => by rw [hq] at obV; cases obV⟩, by rw [al.findClass]; exact e2, kU, u1, by rw [u2]; exact i3, by rw [u2]; exact e5 i3⟩
  have F1 : Found ST "value" "[B" fV P.U := ⟨SBG.found_only al ⟨cfV, kV, iV, gV⟩, stV⟩
  have F2 : Found ST "coder" "B" fC P.U := ⟨SBG.found_only al ⟨cfC, kC, iC, gC⟩, stC⟩
  have hA : Ch b A P.U := ⟨⟨K.1, State.isArrayOf_alike al K.2.1, K.2.2, by omega⟩, hty⟩
  have hS : StaticIs P.U ST "COMPACT_STRINGS" "Z" (.int z) := by
    obtain ⟨cfS, iS, kS, fS, st, cS, t1, t2, t3, t4, t5, t6, t7⟩ := S
    exact StaticIs.there (s := { Z with heap := P.U.heap }) ⟨cfS, iS, kS, fS, st, cS, t1, t2, t3, t4, t5, (fun q => by rw [q] at t6; cases t6), t7⟩ al rfl
  obtain ⟨v, B, X', ⟨⟨hv, E', V', q1, q2, q3, q4, q5, q6, q7, q8, q9, q10, q11⟩, hl, hc, hs⟩, st⟩ := New1.pays x D fV fC b A z (tab_of (moved hZ hw)) hfr hlo m meth c P g ig mk _ X hg hsize hdg hW hn ⟨r1, r2, rfl, hB, F1, F2, hA, hS, hz, l0, l2, hp⟩
  have al' : Z.vm.Alike B.U.vm := hZ.alike.trans X'.warmed.alike
  have hsz : E'.slots.size = D.slots.size := by
    obtain ⟨-, -, -, kB, w1, w2, w3⟩ := q1
    obtain ⟨kB', y1, y2⟩ := al'.2.2 _ _ e3
    rw [q2.2.1] at w1
    cases w1.symm.trans y1
    rw [w3, e5 i3, y2]
  refine ⟨v, B, X', ⟨_, ⟨hv, ?_, ⟨by omega, fun y cy hy hn' => q10 y cy (by simpa using hn') hy, fun y cy hy => ?_⟩, q11, ⟨E', _, q1.1, by rw [q2.2.1]; exact e2, by rw [q2.2.1]; exact e3, by rw [q2.1]; exact obV, fun _ => by rw [hsz]; exact e5 i3⟩,
    ⟨E', cfV, kV, iV, fV, q1.1, gV, stV, by rw [q2.1]; exact knV, by rw [q2.1]; exact obV, by rw [q2.2.1]; exact asV, q3⟩, ⟨E', cfC, kC, iC, fC, q1.1, gC, stC, by rw [q2.1]; exact knV, by rw [q2.1]; exact obV, by rw [q2.2.1]; exact asC, q4⟩,
    ⟨V', ⟨q5.1, State.isArrayOf_alike al'.symm q5.2.1, q5.2.2.1⟩, q6, by rw [← al'.findClass]; exact q7, q8, fun j hj => by have := q9 j hj; rwa [Nat.zero_add] at this⟩, fun O n d w F n1 n2 => ?_⟩, hl, hc, hs⟩, st⟩
  · intro y hy
    simp only [List.mem_cons, List.not_mem_nil, or_false] at hy
    rcases hy with rfl | rfl <;> rfl
  · by_cases q : y = x
    · subst q
      cases hD.symm.trans hy
      exact ⟨E', q1.1, q2.2.1, q2.1, hsz⟩
    · exact ⟨cy, q10 y cy q hy, rfl, rfl, rfl⟩
  · obtain ⟨D3, cf, k, i, f, g1, g2, g3, g4, g5, g6, g7⟩ := F
    cases hD.symm.trans g1
    simp only [RoadKit.slotOf, g2, gV, gC, Option.map_some, Option.getD_some] at n1 n2
    exact ⟨E', cf, k, i, f, q1.1, g2, g3, by rw [q2.1]; exact g4, by rw [q2.1]; exact g5, by rw [q2.2.1]; exact g6, by rw [q2.2.2 f.slot (by simp [n1, n2])]; exact g7⟩
end StrChars.Road
namespace StrChars.Road
open Jvm Sem ClassFile Op Lib Jvm.Stand Jvm.Free Jvm.Free.XT
/-- WHAT COMES BACK, the byte[] as a list of values -/
def QA (Z : State) (x : Addr) (zn : Int32) (cs : List Int32) (h : Heap) (v : Option Value) (h' : Heap) (L : List Loc) : Prop := v = none ∧ (∀ y ∈ L, y.base = x) ∧ RoadKit.Keep h h' [x] ∧ h'.size = h.size + 1 ∧ RoadKit.Exa Z h' x ST ∧ RoadKit.Fld Z h' x ST "value" "[B" (.ref h.size) ∧ RoadKit.Fld Z h' x ST "coder" "B" (.int 0) ∧
  (∃ kb, Z.vm.findClass "[B" = some kb ∧ RoadKit.Arv Z h' h.size kb .byte zn (cs.map fun c => .int (lo8 c)) (.int 0)) ∧
  ∀ (O n d : String) (w : Value), RoadKit.Fld Z h x O n d w → RoadKit.slotOf Z O n d ≠ RoadKit.slotOf Z ST "value" "[B" → RoadKit.slotOf Z O n d ≠ RoadKit.slotOf Z ST "coder" "B" → RoadKit.Fld Z h' x O n d w
/-- **new String(chars) AT A CALL, THE ARRAYS AS LISTS**: the char[] at b holds cs, not empty, no char above 255 -/
theorem backArv {p : Program} {l : Launch} {e : Env} {R : Room} {s : State} {args : Array Value} {below : List Frame} {len W : Nat} {Z : State} {a0 : Array Value} {h : Heap} (hZ : Z.Warmed39 s.vm) (hw : ∀ d ∈ words, d.before a0 Z = true) {kI : Nat} (wi : (Jvm.Cond.instantiable ST kI).before a0 Z = true)
    {x b : Addr} {k : ClassId} {zn z : Int32} {cs : List Int32} {dv v0 c0 : Value} (E : RoadKit.Exa Z h x ST) (V : RoadKit.Fld Z h x ST "value" "[B" v0) (C : RoadKit.Fld Z h x ST "coder" "B" c0) (K : RoadKit.Arv Z h b k .char zn (cs.map Value.int) dv) (S : RoadKit.Sta Z h ST "COMPACT_STRINGS" "Z" (.int z)) (hz : ¬ z = 0)
    (hlen : zn.toNatClampNeg = cs.length) (h0 : 0 < cs.length) (hbig : cs.length ≤ 536870912) (hall : ∀ c ∈ cs, ¬ 255 < c) (hfr : 4 ≤ R.frames) (hlo : W + 65 ≤ R.locals) :
    Back l R p e below s args New1.yN len W (fun P a => a = #[.ref x, .ref b] ∧ P.U.heap = h ∧ P.cells + 1 ≤ R.cells ∧ P.slots + cs.length ≤ R.slots)
      (fun P _ v B => ∃ L, QA Z x zn cs h v B.U.heap L ∧ B.locs = P.locs ++ L ∧ B.cells = P.cells + 1 ∧ B.slots = P.slots + cs.length) := by
  obtain ⟨A, K1, K2, K3, K4, K5, K6⟩ := K
  have e : A.slots.size = cs.length := K3.trans hlen
  have hat : ∀ (i : Nat) (hi : i < cs.length), A.slots[i]? = some (.int cs[i]) := fun i hi => by rw [K5 i (by omega)]; simp [List.getD_eq_getElem?_getD, hi]
  have hcv : ∀ (i : Nat) (hi : i < cs.length), cv A i = cs[i] := fun i hi => by unfold cv; rw [hat i hi]
  have hty : Typed .char A := fun i v hv => by
    have hi : i < A.slots.size := (Array.getElem?_eq_some_iff.mp hv).1
    have q := K5 i hi
    rw [hv] at q
    rw [Option.some.inj q]
    exact K6 i hi
  refine Back.mono (back hZ hw wi E V C K1 hty S hz (by omega) (by omega) (fun i hi => by rw [hcv i (by omega)]; exact hall _ (List.getElem_mem _)) hfr hlo) (fun P a hp => ⟨hp.1, hp.2.1, hp.2.2.1, by rw [e]; exact hp.2.2.2⟩) (fun P a v B hp hq => ?_)
  obtain ⟨L, ⟨q1, q2, q3, q4, q5, q6, q7, ⟨V', v1, v2, v3, v4, v5⟩, q9⟩, hl, hc, hs⟩ := hq
  refine ⟨L, ⟨q1, q2, q3, q4, q5, q6, q7, ⟨V'.cls, v3, V', v1, rfl, by rw [v4, e, hlen], K4, fun i hi => ?_, fun i hi => ?_⟩, q9⟩, hl, hc, by rw [hs, e]⟩
  · have hi' : i < cs.length := by omega
    rw [v5 i (by omega), hcv i hi']; simp [List.getD_eq_getElem?_getD, hi']
  · have hi' : i < cs.length := by omega
    simp only [List.getD_eq_getElem?_getD, List.getElem?_map, List.getElem?_eq_getElem hi', Option.map_some, Option.getD_some]
    exact fits_lo8 _
end StrChars.Road
namespace StrChars.Road
open Jvm Sem ClassFile Op Lib Jvm.Stand Jvm.Free Jvm.Free.XT
/-- WHAT COMES BACK, in the writer's own shape -/
def QV (Z : State) (x : Addr) (N : Int32) (bs : List Int32) (h : Heap) (n0 : Nat) (v : Option Value) (h' : Heap) (L : List Loc) : Prop := v = none ∧ RoadKit.Fr n0 L ∧ RoadKit.Keep h h' [x] ∧ RoadKit.Exa Z h' x ST ∧ RoadKit.Fld Z h' x ST "coder" "B" (.int 0) ∧
  ∃ (t : Addr) (kb : ClassId), n0 ≤ t ∧ h.size ≤ t ∧ ¬ t = x ∧ RoadKit.Fld Z h' x ST "value" "[B" (.ref t) ∧ RoadKit.Arv Z h' t kb .byte N (bs.map Value.int) (.int 0)
/-- **new String(chars) AT A CALL, FOR THE WRITER**: a char[] of n known ints, each 0 to 255 -/
theorem backV {p : Program} {l : Launch} {e : Env} {R : Room} {s : State} {args : Array Value} {below : List Frame} {len W : Nat} {Z : State} {a0 : Array Value} {h : Heap} (hZ : Z.Warmed39 s.vm) (hw : ∀ d ∈ words, d.before a0 Z = true) {kI : Nat} (wi : (Jvm.Cond.instantiable ST kI).before a0 Z = true)
    {x b : Addr} {kC : ClassId} {cs bs : List Int32} {d v0 c0 : Value} {z N : Int32} {n n0 : Nat} (hx0 : n0 ≤ x) (hh0 : n0 ≤ h.size) (E : RoadKit.Exa Z h x ST) (V : RoadKit.Fld Z h x ST "value" "[B" v0) (C : RoadKit.Fld Z h x ST "coder" "B" c0) (K : RoadKit.Arv Z h b kC .char N (cs.map Value.int) d) (S : RoadKit.Sta Z h ST "COMPACT_STRINGS" "Z" (.int z)) (hz : ¬ z = 0)
    (hn : cs.length = n) (hN : N = Int32.ofNat n) (l0 : 0 < n) (l2 : n ≤ 4000) (hp : ∀ c ∈ cs, ¬ c < 0 ∧ ¬ (255 : Int32) < c) (hb : bs = cs.map (fun c => c.toInt8.toInt32)) (hfr : 4 ≤ R.frames) (hlo : W + 65 ≤ R.locals) :
    Back l R p e below s args (⟨"java/lang/String", "<init>", "([C)V"⟩ : MethodName) len W (fun P a => a = #[.ref x, .ref b] ∧ P.U.heap = h ∧ P.cells + 1 ≤ R.cells ∧ P.slots + n ≤ R.slots)
      (fun P _ v B => ∃ L, QV Z x N bs h n0 v B.U.heap L ∧ B.locs = P.locs ++ L ∧ B.cells = P.cells + 1 ∧ B.slots = P.slots + n) := by
  subst hn hN hb
  refine Back.mono (backArv hZ hw wi E V C K S hz (n32 (by omega)) l0 (by omega) (fun c hc => (hp c hc).2) hfr hlo) (fun P a hp => hp) (fun P a v B hp hq => ?_)
  obtain ⟨L, ⟨q1, q2, q3, q4, q5, q6, q7, ⟨kb, v1, v2⟩, q9⟩, hl, hc, hs⟩ := hq
  exact ⟨L, ⟨q1, fun y hy => by rw [q2 y hy]; exact hx0, q3, q5, q7, h.size, kb, hh0, Nat.le_refl _, Nat.ne_of_gt E.lt, q6, by rw [List.map_map]; exact v2⟩, hl, hc, hs⟩
end StrChars.Road
end Jvm.Pilot.@@N@@
namespace Jvm.Pilot.@@N@@
open Jvm Jvm.ClassFile Sem Op Lib Jvm.Free Jvm.Stand Jvm.LawKit Jvm.RoadKit Jvm.OwnKit Bundle Jvm.Pilot.@@N@@.Jvm.D
def Ev (Z : State) (a0 : Array Value) : Prop := (∀ d ∈ tables_1, d.before a0 Z = true) ∧ (∃ z : Int32, Sta Z Z.heap "java/lang/String" "COMPACT_STRINGS" "Z" (.int z) ∧ ¬ z = 0) ∧ (∃ fm : Value, Sta Z Z.heap "jdk/internal/util/Preconditions" "SIOOBE_FORMATTER" "Ljava/util/function/BiFunction;" fm ∧ fm.isRef = true) ∧ (∃ fc : Value, Sta Z Z.heap "java/lang/String" "CASE_INSENSITIVE_ORDER" "Ljava/util/Comparator;" fc ∧ fc.isRef = true) ∧ (∃ mT : Addr, Mi Z "java/util/TreeMap" mT) ∧ (∃ mU : Addr, Mi Z "java/util/Collections$UnmodifiableMap" mU)
theorem tw0 {Z : State} {a0 : Array Value} (hw : ∀ d ∈ tables_1, d.before a0 Z = true) : (Jvm.Cond.arrayClass Jvm.ClassFile.FieldType.char).before a0 Z = true := hw _ (List.mem_of_getElem? (i := 0) rfl)
theorem tw1 {Z : State} {a0 : Array Value} (hw : ∀ d ∈ tables_1, d.before a0 Z = true) : (Jvm.Cond.classLink "com/example/gate_to_handlers/gatetohandlers/HttpEntityHasBodyPinLaw" (7 : Nat) "java/lang/String").before a0 Z = true := hw _ (List.mem_of_getElem? (i := 1) rfl)
theorem tw2 {Z : State} {a0 : Array Value} (hw : ∀ d ∈ tables_1, d.before a0 Z = true) : (Jvm.Cond.instantiable "java/lang/String" (4 : Nat)).before a0 Z = true := hw _ (List.mem_of_getElem? (i := 2) rfl)
theorem tw3 {Z : State} {a0 : Array Value} (hw : ∀ d ∈ tables_1, d.before a0 Z = true) : (Jvm.Cond.initialized "java/lang/String").before a0 Z = true := hw _ (List.mem_of_getElem? (i := 3) rfl)
theorem tw4 {Z : State} {a0 : Array Value} (hw : ∀ d ∈ tables_1, d.before a0 Z = true) : (Jvm.Cond.methodLink "com/example/gate_to_handlers/gatetohandlers/HttpEntityHasBodyPinLaw" (9 : Nat) ({ cls := "java/lang/String", name := "<init>", desc := "([C)V" } : Jvm.MethodName)).before a0 Z = true := hw _ (List.mem_of_getElem? (i := 4) rfl)
theorem tw5 {Z : State} {a0 : Array Value} (hw : ∀ d ∈ tables_1, d.before a0 Z = true) : (Jvm.Cond.instanceMethod ({ cls := "java/lang/String", name := "<init>", desc := "([C)V" } : Jvm.MethodName)).before a0 Z = true := hw _ (List.mem_of_getElem? (i := 5) rfl)
theorem tw6 {Z : State} {a0 : Array Value} (hw : ∀ d ∈ tables_1, d.before a0 Z = true) : (Jvm.Cond.code ({ cls := "java/lang/String", name := "<init>", desc := "([C)V" } : Jvm.MethodName) jdk_42_method_3_code (2 : Nat) (Option.none : Option Jvm.ClassFile.FieldType)).before a0 Z = true := hw _ (List.mem_of_getElem? (i := 6) rfl)
theorem tw7 {Z : State} {a0 : Array Value} (hw : ∀ d ∈ tables_1, d.before a0 Z = true) : (Jvm.Cond.methodLink "java/lang/String" (27 : Nat) ({ cls := "java/lang/String", name := "<init>", desc := "([CIILjava/lang/Void;)V" } : Jvm.MethodName)).before a0 Z = true := hw _ (List.mem_of_getElem? (i := 7) rfl)
theorem tw8 {Z : State} {a0 : Array Value} (hw : ∀ d ∈ tables_1, d.before a0 Z = true) : (Jvm.Cond.instanceMethod ({ cls := "java/lang/String", name := "<init>", desc := "([CIILjava/lang/Void;)V" } : Jvm.MethodName)).before a0 Z = true := hw _ (List.mem_of_getElem? (i := 8) rfl)
theorem tw10 {Z : State} {a0 : Array Value} (hw : ∀ d ∈ tables_1, d.before a0 Z = true) : (Jvm.Cond.code ({ cls := "java/lang/String", name := "<init>", desc := "([CIILjava/lang/Void;)V" } : Jvm.MethodName) jdk_42_method_149_code (6 : Nat) (Option.none : Option Jvm.ClassFile.FieldType)).before a0 Z = true := hw _ (List.mem_of_getElem? (i := 10) rfl)
theorem tw11 {Z : State} {a0 : Array Value} (hw : ∀ d ∈ tables_1, d.before a0 Z = true) : (Jvm.Cond.methodLink "java/lang/String" (1 : Nat) ({ cls := "java/lang/Object", name := "<init>", desc := "()V" } : Jvm.MethodName)).before a0 Z = true := hw _ (List.mem_of_getElem? (i := 11) rfl)
theorem tw12 {Z : State} {a0 : Array Value} (hw : ∀ d ∈ tables_1, d.before a0 Z = true) : (Jvm.Cond.instanceMethod ({ cls := "java/lang/Object", name := "<init>", desc := "()V" } : Jvm.MethodName)).before a0 Z = true := hw _ (List.mem_of_getElem? (i := 12) rfl)
theorem tw13 {Z : State} {a0 : Array Value} (hw : ∀ d ∈ tables_1, d.before a0 Z = true) : (Jvm.Cond.code ({ cls := "java/lang/Object", name := "<init>", desc := "()V" } : Jvm.MethodName) object_method_1_code (1 : Nat) (Option.none : Option Jvm.ClassFile.FieldType)).before a0 Z = true := hw _ (List.mem_of_getElem? (i := 13) rfl)
theorem tw14 {Z : State} {a0 : Array Value} (hw : ∀ d ∈ tables_1, d.before a0 Z = true) : (Jvm.Cond.stringLink "java/lang/String" (7 : Nat) "").before a0 Z = true := hw _ (List.mem_of_getElem? (i := 14) rfl)
theorem tw16 {Z : State} {a0 : Array Value} (hw : ∀ d ∈ tables_1, d.before a0 Z = true) : (Jvm.Cond.laysFinal "java/lang/String" "java/lang/String" "value" "[B").before a0 Z = true := hw _ (List.mem_of_getElem? (i := 16) rfl)
theorem tw17 {Z : State} {a0 : Array Value} (hw : ∀ d ∈ tables_1, d.before a0 Z = true) : (Jvm.Cond.laysFinal "java/lang/String" "java/lang/String" "coder" "B").before a0 Z = true := hw _ (List.mem_of_getElem? (i := 17) rfl)
theorem tw20 {Z : State} {a0 : Array Value} (hw : ∀ d ∈ tables_1, d.before a0 Z = true) : (Jvm.Cond.fieldLink "java/lang/String" (9 : Nat) "java/lang/String" "value" "[B").before a0 Z = true := hw _ (List.mem_of_getElem? (i := 20) rfl)
theorem tw21 {Z : State} {a0 : Array Value} (hw : ∀ d ∈ tables_1, d.before a0 Z = true) : (Jvm.Cond.fieldLink "java/lang/String" (15 : Nat) "java/lang/String" "coder" "B").before a0 Z = true := hw _ (List.mem_of_getElem? (i := 21) rfl)
theorem tw22 {Z : State} {a0 : Array Value} (hw : ∀ d ∈ tables_1, d.before a0 Z = true) : (Jvm.Cond.classLink "com/example/gate_to_handlers/gatetohandlers/HttpEntityHasBodyPinLaw" (12 : Nat) "com/example/gate_to_handlers/gatetohandlers/HttpHeaders").before a0 Z = true := hw _ (List.mem_of_getElem? (i := 22) rfl)
theorem tw23 {Z : State} {a0 : Array Value} (hw : ∀ d ∈ tables_1, d.before a0 Z = true) : (Jvm.Cond.instantiable "com/example/gate_to_handlers/gatetohandlers/HttpHeaders" (1 : Nat)).before a0 Z = true := hw _ (List.mem_of_getElem? (i := 23) rfl)
theorem tw24 {Z : State} {a0 : Array Value} (hw : ∀ d ∈ tables_1, d.before a0 Z = true) : (Jvm.Cond.initialized "com/example/gate_to_handlers/gatetohandlers/HttpHeaders").before a0 Z = true := hw _ (List.mem_of_getElem? (i := 24) rfl)
theorem tw25 {Z : State} {a0 : Array Value} (hw : ∀ d ∈ tables_1, d.before a0 Z = true) : (Jvm.Cond.methodLink "com/example/gate_to_handlers/gatetohandlers/HttpEntityHasBodyPinLaw" (14 : Nat) ({ cls := "com/example/gate_to_handlers/gatetohandlers/HttpHeaders", name := "<init>", desc := "()V" } : Jvm.MethodName)).before a0 Z = true := hw _ (List.mem_of_getElem? (i := 25) rfl)
theorem tw26 {Z : State} {a0 : Array Value} (hw : ∀ d ∈ tables_1, d.before a0 Z = true) : (Jvm.Cond.instanceMethod ({ cls := "com/example/gate_to_handlers/gatetohandlers/HttpHeaders", name := "<init>", desc := "()V" } : Jvm.MethodName)).before a0 Z = true := hw _ (List.mem_of_getElem? (i := 26) rfl)
theorem tw27 {Z : State} {a0 : Array Value} (hw : ∀ d ∈ tables_1, d.before a0 Z = true) : (Jvm.Cond.code ({ cls := "com/example/gate_to_handlers/gatetohandlers/HttpHeaders", name := "<init>", desc := "()V" } : Jvm.MethodName) prog_58_method_1_code (1 : Nat) (Option.none : Option Jvm.ClassFile.FieldType)).before a0 Z = true := hw _ (List.mem_of_getElem? (i := 27) rfl)
theorem tw28 {Z : State} {a0 : Array Value} (hw : ∀ d ∈ tables_1, d.before a0 Z = true) : (Jvm.Cond.classLink "com/example/gate_to_handlers/gatetohandlers/HttpHeaders" (1 : Nat) "java/util/TreeMap").before a0 Z = true := hw _ (List.mem_of_getElem? (i := 28) rfl)
theorem tw29 {Z : State} {a0 : Array Value} (hw : ∀ d ∈ tables_1, d.before a0 Z = true) : (Jvm.Cond.instantiable "java/util/TreeMap" (9 : Nat)).before a0 Z = true := hw _ (List.mem_of_getElem? (i := 29) rfl)
theorem tw30 {Z : State} {a0 : Array Value} (hw : ∀ d ∈ tables_1, d.before a0 Z = true) : (Jvm.Cond.initialized "java/util/TreeMap").before a0 Z = true := hw _ (List.mem_of_getElem? (i := 30) rfl)
theorem tw31 {Z : State} {a0 : Array Value} (hw : ∀ d ∈ tables_1, d.before a0 Z = true) : (Jvm.Cond.fieldLink "com/example/gate_to_handlers/gatetohandlers/HttpHeaders" (3 : Nat) "java/lang/String" "CASE_INSENSITIVE_ORDER" "Ljava/util/Comparator;").before a0 Z = true := hw _ (List.mem_of_getElem? (i := 31) rfl)
theorem tw32 {Z : State} {a0 : Array Value} (hw : ∀ d ∈ tables_1, d.before a0 Z = true) : (Jvm.Cond.methodLink "com/example/gate_to_handlers/gatetohandlers/HttpHeaders" (9 : Nat) ({ cls := "java/util/TreeMap", name := "<init>", desc := "(Ljava/util/Comparator;)V" } : Jvm.MethodName)).before a0 Z = true := hw _ (List.mem_of_getElem? (i := 32) rfl)
theorem tw33 {Z : State} {a0 : Array Value} (hw : ∀ d ∈ tables_1, d.before a0 Z = true) : (Jvm.Cond.instanceMethod ({ cls := "java/util/TreeMap", name := "<init>", desc := "(Ljava/util/Comparator;)V" } : Jvm.MethodName)).before a0 Z = true := hw _ (List.mem_of_getElem? (i := 33) rfl)
theorem tw34 {Z : State} {a0 : Array Value} (hw : ∀ d ∈ tables_1, d.before a0 Z = true) : (Jvm.Cond.code ({ cls := "java/util/TreeMap", name := "<init>", desc := "(Ljava/util/Comparator;)V" } : Jvm.MethodName) jdk_2729_method_2_code (2 : Nat) (Option.none : Option Jvm.ClassFile.FieldType)).before a0 Z = true := hw _ (List.mem_of_getElem? (i := 34) rfl)
theorem tw35 {Z : State} {a0 : Array Value} (hw : ∀ d ∈ tables_1, d.before a0 Z = true) : (Jvm.Cond.methodLink "java/util/TreeMap" (1 : Nat) ({ cls := "java/util/AbstractMap", name := "<init>", desc := "()V" } : Jvm.MethodName)).before a0 Z = true := hw _ (List.mem_of_getElem? (i := 35) rfl)
theorem tw36 {Z : State} {a0 : Array Value} (hw : ∀ d ∈ tables_1, d.before a0 Z = true) : (Jvm.Cond.instanceMethod ({ cls := "java/util/AbstractMap", name := "<init>", desc := "()V" } : Jvm.MethodName)).before a0 Z = true := hw _ (List.mem_of_getElem? (i := 36) rfl)
theorem tw39 {Z : State} {a0 : Array Value} (hw : ∀ d ∈ tables_1, d.before a0 Z = true) : (Jvm.Cond.initialized "java/util/AbstractMap").before a0 Z = true := hw _ (List.mem_of_getElem? (i := 39) rfl)
theorem tw40 {Z : State} {a0 : Array Value} (hw : ∀ d ∈ tables_1, d.before a0 Z = true) : (Jvm.Cond.code ({ cls := "java/util/AbstractMap", name := "<init>", desc := "()V" } : Jvm.MethodName) jdk_71_method_1_code (1 : Nat) (Option.none : Option Jvm.ClassFile.FieldType)).before a0 Z = true := hw _ (List.mem_of_getElem? (i := 40) rfl)
theorem tw41 {Z : State} {a0 : Array Value} (hw : ∀ d ∈ tables_1, d.before a0 Z = true) : (Jvm.Cond.methodLink "java/util/AbstractMap" (1 : Nat) ({ cls := "java/lang/Object", name := "<init>", desc := "()V" } : Jvm.MethodName)).before a0 Z = true := hw _ (List.mem_of_getElem? (i := 41) rfl)
theorem tw42 {Z : State} {a0 : Array Value} (hw : ∀ d ∈ tables_1, d.before a0 Z = true) : (Jvm.Cond.fieldLink "java/util/TreeMap" (7 : Nat) "java/util/TreeMap" "size" "I").before a0 Z = true := hw _ (List.mem_of_getElem? (i := 42) rfl)
theorem tw43 {Z : State} {a0 : Array Value} (hw : ∀ d ∈ tables_1, d.before a0 Z = true) : (Jvm.Cond.lays "java/util/TreeMap" "java/util/TreeMap" "size" "I").before a0 Z = true := hw _ (List.mem_of_getElem? (i := 43) rfl)
theorem tw44 {Z : State} {a0 : Array Value} (hw : ∀ d ∈ tables_1, d.before a0 Z = true) : (Jvm.Cond.fieldLink "java/util/TreeMap" (13 : Nat) "java/util/TreeMap" "modCount" "I").before a0 Z = true := hw _ (List.mem_of_getElem? (i := 44) rfl)
theorem tw45 {Z : State} {a0 : Array Value} (hw : ∀ d ∈ tables_1, d.before a0 Z = true) : (Jvm.Cond.lays "java/util/TreeMap" "java/util/TreeMap" "modCount" "I").before a0 Z = true := hw _ (List.mem_of_getElem? (i := 45) rfl)
theorem tw46 {Z : State} {a0 : Array Value} (hw : ∀ d ∈ tables_1, d.before a0 Z = true) : (Jvm.Cond.fieldLink "java/util/TreeMap" (16 : Nat) "java/util/TreeMap" "comparator" "Ljava/util/Comparator;").before a0 Z = true := hw _ (List.mem_of_getElem? (i := 46) rfl)
theorem tw47 {Z : State} {a0 : Array Value} (hw : ∀ d ∈ tables_1, d.before a0 Z = true) : (Jvm.Cond.laysFinal "java/util/TreeMap" "java/util/TreeMap" "comparator" "Ljava/util/Comparator;").before a0 Z = true := hw _ (List.mem_of_getElem? (i := 47) rfl)
theorem tw48 {Z : State} {a0 : Array Value} (hw : ∀ d ∈ tables_1, d.before a0 Z = true) : (Jvm.Cond.methodLink "com/example/gate_to_handlers/gatetohandlers/HttpHeaders" (13 : Nat) ({ cls := "com/example/gate_to_handlers/gatetohandlers/HttpHeaders", name := "<init>", desc := "(Ljava/util/Map;)V" } : Jvm.MethodName)).before a0 Z = true := hw _ (List.mem_of_getElem? (i := 48) rfl)
theorem tw49 {Z : State} {a0 : Array Value} (hw : ∀ d ∈ tables_1, d.before a0 Z = true) : (Jvm.Cond.instanceMethod ({ cls := "com/example/gate_to_handlers/gatetohandlers/HttpHeaders", name := "<init>", desc := "(Ljava/util/Map;)V" } : Jvm.MethodName)).before a0 Z = true := hw _ (List.mem_of_getElem? (i := 49) rfl)
theorem tw50 {Z : State} {a0 : Array Value} (hw : ∀ d ∈ tables_1, d.before a0 Z = true) : (Jvm.Cond.code ({ cls := "com/example/gate_to_handlers/gatetohandlers/HttpHeaders", name := "<init>", desc := "(Ljava/util/Map;)V" } : Jvm.MethodName) prog_58_method_2_code (2 : Nat) (Option.none : Option Jvm.ClassFile.FieldType)).before a0 Z = true := hw _ (List.mem_of_getElem? (i := 50) rfl)
theorem tw51 {Z : State} {a0 : Array Value} (hw : ∀ d ∈ tables_1, d.before a0 Z = true) : (Jvm.Cond.methodLink "com/example/gate_to_handlers/gatetohandlers/HttpHeaders" (18 : Nat) ({ cls := "java/lang/Object", name := "<init>", desc := "()V" } : Jvm.MethodName)).before a0 Z = true := hw _ (List.mem_of_getElem? (i := 51) rfl)
theorem tw52 {Z : State} {a0 : Array Value} (hw : ∀ d ∈ tables_1, d.before a0 Z = true) : (Jvm.Cond.fieldLink "com/example/gate_to_handlers/gatetohandlers/HttpHeaders" (23 : Nat) "com/example/gate_to_handlers/gatetohandlers/HttpHeaders" "fields" "Ljava/util/Map;").before a0 Z = true := hw _ (List.mem_of_getElem? (i := 52) rfl)
theorem tw53 {Z : State} {a0 : Array Value} (hw : ∀ d ∈ tables_1, d.before a0 Z = true) : (Jvm.Cond.laysFinal "com/example/gate_to_handlers/gatetohandlers/HttpHeaders" "com/example/gate_to_handlers/gatetohandlers/HttpHeaders" "fields" "Ljava/util/Map;").before a0 Z = true := hw _ (List.mem_of_getElem? (i := 53) rfl)
theorem tw54 {Z : State} {a0 : Array Value} (hw : ∀ d ∈ tables_1, d.before a0 Z = true) : (Jvm.Cond.classLink "com/example/gate_to_handlers/gatetohandlers/HttpEntityHasBodyPinLaw" (15 : Nat) "com/example/gate_to_handlers/gatetohandlers/HttpEntity").before a0 Z = true := hw _ (List.mem_of_getElem? (i := 54) rfl)
theorem tw55 {Z : State} {a0 : Array Value} (hw : ∀ d ∈ tables_1, d.before a0 Z = true) : (Jvm.Cond.instantiable "com/example/gate_to_handlers/gatetohandlers/HttpEntity" (2 : Nat)).before a0 Z = true := hw _ (List.mem_of_getElem? (i := 55) rfl)
theorem tw56 {Z : State} {a0 : Array Value} (hw : ∀ d ∈ tables_1, d.before a0 Z = true) : (Jvm.Cond.initialized "com/example/gate_to_handlers/gatetohandlers/HttpEntity").before a0 Z = true := hw _ (List.mem_of_getElem? (i := 56) rfl)
theorem tw57 {Z : State} {a0 : Array Value} (hw : ∀ d ∈ tables_1, d.before a0 Z = true) : (Jvm.Cond.methodLink "com/example/gate_to_handlers/gatetohandlers/HttpEntityHasBodyPinLaw" (17 : Nat) ({ cls := "com/example/gate_to_handlers/gatetohandlers/HttpEntity", name := "<init>", desc := "()V" } : Jvm.MethodName)).before a0 Z = true := hw _ (List.mem_of_getElem? (i := 57) rfl)
theorem tw58 {Z : State} {a0 : Array Value} (hw : ∀ d ∈ tables_1, d.before a0 Z = true) : (Jvm.Cond.instanceMethod ({ cls := "com/example/gate_to_handlers/gatetohandlers/HttpEntity", name := "<init>", desc := "()V" } : Jvm.MethodName)).before a0 Z = true := hw _ (List.mem_of_getElem? (i := 58) rfl)
theorem tw59 {Z : State} {a0 : Array Value} (hw : ∀ d ∈ tables_1, d.before a0 Z = true) : (Jvm.Cond.code ({ cls := "com/example/gate_to_handlers/gatetohandlers/HttpEntity", name := "<init>", desc := "()V" } : Jvm.MethodName) prog_56_method_1_code (1 : Nat) (Option.none : Option Jvm.ClassFile.FieldType)).before a0 Z = true := hw _ (List.mem_of_getElem? (i := 59) rfl)
theorem tw60 {Z : State} {a0 : Array Value} (hw : ∀ d ∈ tables_1, d.before a0 Z = true) : (Jvm.Cond.methodLink "com/example/gate_to_handlers/gatetohandlers/HttpEntity" (1 : Nat) ({ cls := "com/example/gate_to_handlers/gatetohandlers/HttpEntity", name := "<init>", desc := "(Ljava/lang/Object;Lcom/example/gate_to_handlers/gatetohandlers/HttpHeaders;)V" } : Jvm.MethodName)).before a0 Z = true := hw _ (List.mem_of_getElem? (i := 60) rfl)
theorem tw61 {Z : State} {a0 : Array Value} (hw : ∀ d ∈ tables_1, d.before a0 Z = true) : (Jvm.Cond.instanceMethod ({ cls := "com/example/gate_to_handlers/gatetohandlers/HttpEntity", name := "<init>", desc := "(Ljava/lang/Object;Lcom/example/gate_to_handlers/gatetohandlers/HttpHeaders;)V" } : Jvm.MethodName)).before a0 Z = true := hw _ (List.mem_of_getElem? (i := 61) rfl)
theorem tw62 {Z : State} {a0 : Array Value} (hw : ∀ d ∈ tables_1, d.before a0 Z = true) : (Jvm.Cond.code ({ cls := "com/example/gate_to_handlers/gatetohandlers/HttpEntity", name := "<init>", desc := "(Ljava/lang/Object;Lcom/example/gate_to_handlers/gatetohandlers/HttpHeaders;)V" } : Jvm.MethodName) prog_56_method_4_code (3 : Nat) (Option.none : Option Jvm.ClassFile.FieldType)).before a0 Z = true := hw _ (List.mem_of_getElem? (i := 62) rfl)
theorem tw63 {Z : State} {a0 : Array Value} (hw : ∀ d ∈ tables_1, d.before a0 Z = true) : (Jvm.Cond.methodLink "com/example/gate_to_handlers/gatetohandlers/HttpEntity" (7 : Nat) ({ cls := "java/lang/Object", name := "<init>", desc := "()V" } : Jvm.MethodName)).before a0 Z = true := hw _ (List.mem_of_getElem? (i := 63) rfl)
theorem tw64 {Z : State} {a0 : Array Value} (hw : ∀ d ∈ tables_1, d.before a0 Z = true) : (Jvm.Cond.fieldLink "com/example/gate_to_handlers/gatetohandlers/HttpEntity" (12 : Nat) "com/example/gate_to_handlers/gatetohandlers/HttpEntity" "body" "Ljava/lang/Object;").before a0 Z = true := hw _ (List.mem_of_getElem? (i := 64) rfl)
theorem tw65 {Z : State} {a0 : Array Value} (hw : ∀ d ∈ tables_1, d.before a0 Z = true) : (Jvm.Cond.laysFinal "com/example/gate_to_handlers/gatetohandlers/HttpEntity" "com/example/gate_to_handlers/gatetohandlers/HttpEntity" "body" "Ljava/lang/Object;").before a0 Z = true := hw _ (List.mem_of_getElem? (i := 65) rfl)
theorem tw66 {Z : State} {a0 : Array Value} (hw : ∀ d ∈ tables_1, d.before a0 Z = true) : (Jvm.Cond.classLink "com/example/gate_to_handlers/gatetohandlers/HttpEntity" (16 : Nat) "com/example/gate_to_handlers/gatetohandlers/HttpHeaders").before a0 Z = true := hw _ (List.mem_of_getElem? (i := 66) rfl)
theorem tw67 {Z : State} {a0 : Array Value} (hw : ∀ d ∈ tables_1, d.before a0 Z = true) : (Jvm.Cond.methodLink "com/example/gate_to_handlers/gatetohandlers/HttpEntity" (18 : Nat) ({ cls := "com/example/gate_to_handlers/gatetohandlers/HttpHeaders", name := "<init>", desc := "()V" } : Jvm.MethodName)).before a0 Z = true := hw _ (List.mem_of_getElem? (i := 67) rfl)
theorem tw68 {Z : State} {a0 : Array Value} (hw : ∀ d ∈ tables_1, d.before a0 Z = true) : (Jvm.Cond.methodLink "com/example/gate_to_handlers/gatetohandlers/HttpEntity" (19 : Nat) ({ cls := "com/example/gate_to_handlers/gatetohandlers/HttpHeaders", name := "readOnly", desc := "(Lcom/example/gate_to_handlers/gatetohandlers/HttpHeaders;)Lcom/example/gate_to_handlers/gatetohandlers/HttpHeaders;" } : Jvm.MethodName)).before a0 Z = true := hw _ (List.mem_of_getElem? (i := 68) rfl)
theorem tw69 {Z : State} {a0 : Array Value} (hw : ∀ d ∈ tables_1, d.before a0 Z = true) : (Jvm.Cond.static ({ cls := "com/example/gate_to_handlers/gatetohandlers/HttpHeaders", name := "readOnly", desc := "(Lcom/example/gate_to_handlers/gatetohandlers/HttpHeaders;)Lcom/example/gate_to_handlers/gatetohandlers/HttpHeaders;" } : Jvm.MethodName)).before a0 Z = true := hw _ (List.mem_of_getElem? (i := 69) rfl)
theorem tw70 {Z : State} {a0 : Array Value} (hw : ∀ d ∈ tables_1, d.before a0 Z = true) : (Jvm.Cond.code ({ cls := "com/example/gate_to_handlers/gatetohandlers/HttpHeaders", name := "readOnly", desc := "(Lcom/example/gate_to_handlers/gatetohandlers/HttpHeaders;)Lcom/example/gate_to_handlers/gatetohandlers/HttpHeaders;" } : Jvm.MethodName) prog_58_method_3_code (2 : Nat) (Option.some (Jvm.ClassFile.FieldType.object "com/example/gate_to_handlers/gatetohandlers/HttpHeaders"))).before a0 Z = true := hw _ (List.mem_of_getElem? (i := 70) rfl)
theorem tw71 {Z : State} {a0 : Array Value} (hw : ∀ d ∈ tables_1, d.before a0 Z = true) : (Jvm.Cond.lambdaSite ({ cls := "com/example/gate_to_handlers/gatetohandlers/HttpHeaders", name := "readOnly", desc := "(Lcom/example/gate_to_handlers/gatetohandlers/HttpHeaders;)Lcom/example/gate_to_handlers/gatetohandlers/HttpHeaders;" } : Jvm.MethodName) (13 : Nat) (27 : Nat) (Jvm.Lambda.Shape.mk "java/util/function/BiConsumer" "accept" (Jvm.ClassFile.MethodDescriptor.mk ([(Jvm.ClassFile.FieldType.object "java/lang/Object"), (Jvm.ClassFile.FieldType.object "java/lang/Object")] : List Jvm.ClassFile.FieldType) (Option.none : Option Jvm.ClassFile.FieldType)) ([(Jvm.ClassFile.FieldType.object "java/util/Map")] : List Jvm.ClassFile.FieldType) (6 : Nat) "com/example/gate_to_handlers/gatetohandlers/HttpHeaders" "lambda$readOnly$0" (Jvm.ClassFile.MethodDescriptor.mk ([(Jvm.ClassFile.FieldType.object "java/util/Map"), (Jvm.ClassFile.FieldType.object "java/lang/String"), (Jvm.ClassFile.FieldType.object "java/util/List")] : List Jvm.ClassFile.FieldType) (Option.none : Option Jvm.ClassFile.FieldType)) false (Jvm.ClassFile.MethodDescriptor.mk ([(Jvm.ClassFile.FieldType.object "java/lang/String"), (Jvm.ClassFile.FieldType.object "java/util/List")] : List Jvm.ClassFile.FieldType) (Option.none : Option Jvm.ClassFile.FieldType)))).before a0 Z = true := hw _ (List.mem_of_getElem? (i := 71) rfl)
theorem tw74 {Z : State} {a0 : Array Value} (hw : ∀ d ∈ tables_1, d.before a0 Z = true) : (Jvm.Cond.instantiable "java/lang/Object" (0 : Nat)).before a0 Z = true := hw _ (List.mem_of_getElem? (i := 74) rfl)
theorem tw75 {Z : State} {a0 : Array Value} (hw : ∀ d ∈ tables_1, d.before a0 Z = true) : (Jvm.Cond.methodLink "com/example/gate_to_handlers/gatetohandlers/HttpHeaders" (31 : Nat) ({ cls := "com/example/gate_to_handlers/gatetohandlers/HttpHeaders", name := "forEach", desc := "(Ljava/util/function/BiConsumer;)V" } : Jvm.MethodName)).before a0 Z = true := hw _ (List.mem_of_getElem? (i := 75) rfl)
theorem tw76 {Z : State} {a0 : Array Value} (hw : ∀ d ∈ tables_1, d.before a0 Z = true) : (Jvm.Cond.sameMethod "com/example/gate_to_handlers/gatetohandlers/HttpHeaders" "java/util/Map" "forEach" "(Ljava/util/function/BiConsumer;)V").before a0 Z = true := hw _ (List.mem_of_getElem? (i := 76) rfl)
theorem tw77 {Z : State} {a0 : Array Value} (hw : ∀ d ∈ tables_1, d.before a0 Z = true) : (Jvm.Cond.declares ({ cls := "java/util/Map", name := "forEach", desc := "(Ljava/util/function/BiConsumer;)V" } : Jvm.MethodName)).before a0 Z = true := hw _ (List.mem_of_getElem? (i := 77) rfl)
theorem tw78 {Z : State} {a0 : Array Value} (hw : ∀ d ∈ tables_1, d.before a0 Z = true) : (Jvm.Cond.instanceMethod ({ cls := "java/util/Map", name := "forEach", desc := "(Ljava/util/function/BiConsumer;)V" } : Jvm.MethodName)).before a0 Z = true := hw _ (List.mem_of_getElem? (i := 78) rfl)
theorem tw79 {Z : State} {a0 : Array Value} (hw : ∀ d ∈ tables_1, d.before a0 Z = true) : (Jvm.Cond.landsInDefault "com/example/gate_to_handlers/gatetohandlers/HttpHeaders" ({ cls := "com/example/gate_to_handlers/gatetohandlers/HttpHeaders", name := "forEach", desc := "(Ljava/util/function/BiConsumer;)V" } : Jvm.MethodName) ({ cls := "java/util/Map", name := "forEach", desc := "(Ljava/util/function/BiConsumer;)V" } : Jvm.MethodName)).before a0 Z = true := hw _ (List.mem_of_getElem? (i := 79) rfl)
theorem tw81 {Z : State} {a0 : Array Value} (hw : ∀ d ∈ tables_1, d.before a0 Z = true) : (Jvm.Cond.castable "com/example/gate_to_handlers/gatetohandlers/HttpHeaders" "java/util/Map").before a0 Z = true := hw _ (List.mem_of_getElem? (i := 81) rfl)
theorem tw82 {Z : State} {a0 : Array Value} (hw : ∀ d ∈ tables_1, d.before a0 Z = true) : (Jvm.Cond.codeWith ({ cls := "java/util/Map", name := "forEach", desc := "(Ljava/util/function/BiConsumer;)V" } : Jvm.MethodName) jdk_72_method_16_code (7 : Nat) (Option.none : Option Jvm.ClassFile.FieldType) [((36 : Nat), (52 : Nat), (55 : Nat), (44 : Nat))]).before a0 Z = true := hw _ (List.mem_of_getElem? (i := 82) rfl)
theorem tw83 {Z : State} {a0 : Array Value} (hw : ∀ d ∈ tables_1, d.before a0 Z = true) : (Jvm.Cond.methodLink "java/util/Map" (11 : Nat) ({ cls := "java/util/Objects", name := "requireNonNull", desc := "(Ljava/lang/Object;)Ljava/lang/Object;" } : Jvm.MethodName)).before a0 Z = true := hw _ (List.mem_of_getElem? (i := 83) rfl)
theorem tw84 {Z : State} {a0 : Array Value} (hw : ∀ d ∈ tables_1, d.before a0 Z = true) : (Jvm.Cond.static ({ cls := "java/util/Objects", name := "requireNonNull", desc := "(Ljava/lang/Object;)Ljava/lang/Object;" } : Jvm.MethodName)).before a0 Z = true := hw _ (List.mem_of_getElem? (i := 84) rfl)
theorem tw85 {Z : State} {a0 : Array Value} (hw : ∀ d ∈ tables_1, d.before a0 Z = true) : (Jvm.Cond.initialized "java/util/Objects").before a0 Z = true := hw _ (List.mem_of_getElem? (i := 85) rfl)
theorem tw86 {Z : State} {a0 : Array Value} (hw : ∀ d ∈ tables_1, d.before a0 Z = true) : (Jvm.Cond.code ({ cls := "java/util/Objects", name := "requireNonNull", desc := "(Ljava/lang/Object;)Ljava/lang/Object;" } : Jvm.MethodName) jdk_31_method_10_code (1 : Nat) (Option.some (Jvm.ClassFile.FieldType.object "java/lang/Object"))).before a0 Z = true := hw _ (List.mem_of_getElem? (i := 86) rfl)
theorem tw87 {Z : State} {a0 : Array Value} (hw : ∀ d ∈ tables_1, d.before a0 Z = true) : (Jvm.Cond.methodLink "java/util/Map" (16 : Nat) ({ cls := "java/util/Map", name := "entrySet", desc := "()Ljava/util/Set;" } : Jvm.MethodName)).before a0 Z = true := hw _ (List.mem_of_getElem? (i := 87) rfl)
theorem tw88 {Z : State} {a0 : Array Value} (hw : ∀ d ∈ tables_1, d.before a0 Z = true) : (Jvm.Cond.declares ({ cls := "java/util/Map", name := "entrySet", desc := "()Ljava/util/Set;" } : Jvm.MethodName)).before a0 Z = true := hw _ (List.mem_of_getElem? (i := 88) rfl)
theorem tw89 {Z : State} {a0 : Array Value} (hw : ∀ d ∈ tables_1, d.before a0 Z = true) : (Jvm.Cond.interfaceMethod "java/util/Map" "java/util/Map" "entrySet" "()Ljava/util/Set;").before a0 Z = true := hw _ (List.mem_of_getElem? (i := 89) rfl)
theorem tw90 {Z : State} {a0 : Array Value} (hw : ∀ d ∈ tables_1, d.before a0 Z = true) : (Jvm.Cond.selects "com/example/gate_to_handlers/gatetohandlers/HttpHeaders" ({ cls := "java/util/Map", name := "entrySet", desc := "()Ljava/util/Set;" } : Jvm.MethodName) ({ cls := "com/example/gate_to_handlers/gatetohandlers/HttpHeaders", name := "entrySet", desc := "()Ljava/util/Set;" } : Jvm.MethodName)).before a0 Z = true := hw _ (List.mem_of_getElem? (i := 90) rfl)
theorem tw91 {Z : State} {a0 : Array Value} (hw : ∀ d ∈ tables_1, d.before a0 Z = true) : (Jvm.Cond.instanceMethod ({ cls := "com/example/gate_to_handlers/gatetohandlers/HttpHeaders", name := "entrySet", desc := "()Ljava/util/Set;" } : Jvm.MethodName)).before a0 Z = true := hw _ (List.mem_of_getElem? (i := 91) rfl)
theorem tw92 {Z : State} {a0 : Array Value} (hw : ∀ d ∈ tables_1, d.before a0 Z = true) : (Jvm.Cond.publicMethod ({ cls := "com/example/gate_to_handlers/gatetohandlers/HttpHeaders", name := "entrySet", desc := "()Ljava/util/Set;" } : Jvm.MethodName)).before a0 Z = true := hw _ (List.mem_of_getElem? (i := 92) rfl)
theorem tw93 {Z : State} {a0 : Array Value} (hw : ∀ d ∈ tables_1, d.before a0 Z = true) : (Jvm.Cond.unhidden "com/example/gate_to_handlers/gatetohandlers/HttpHeaders" "entrySet" "()Ljava/util/Set;").before a0 Z = true := hw _ (List.mem_of_getElem? (i := 93) rfl)
theorem tw94 {Z : State} {a0 : Array Value} (hw : ∀ d ∈ tables_1, d.before a0 Z = true) : (Jvm.Cond.code ({ cls := "com/example/gate_to_handlers/gatetohandlers/HttpHeaders", name := "entrySet", desc := "()Ljava/util/Set;" } : Jvm.MethodName) prog_58_method_26_code (1 : Nat) (Option.some (Jvm.ClassFile.FieldType.object "java/util/Set"))).before a0 Z = true := hw _ (List.mem_of_getElem? (i := 94) rfl)
theorem tw95 {Z : State} {a0 : Array Value} (hw : ∀ d ∈ tables_1, d.before a0 Z = true) : (Jvm.Cond.methodLink "com/example/gate_to_handlers/gatetohandlers/HttpHeaders" (221 : Nat) ({ cls := "java/util/Map", name := "entrySet", desc := "()Ljava/util/Set;" } : Jvm.MethodName)).before a0 Z = true := hw _ (List.mem_of_getElem? (i := 95) rfl)
theorem tw96 {Z : State} {a0 : Array Value} (hw : ∀ d ∈ tables_1, d.before a0 Z = true) : (Jvm.Cond.selects "java/util/TreeMap" ({ cls := "java/util/Map", name := "entrySet", desc := "()Ljava/util/Set;" } : Jvm.MethodName) ({ cls := "java/util/TreeMap", name := "entrySet", desc := "()Ljava/util/Set;" } : Jvm.MethodName)).before a0 Z = true := hw _ (List.mem_of_getElem? (i := 96) rfl)
theorem tw97 {Z : State} {a0 : Array Value} (hw : ∀ d ∈ tables_1, d.before a0 Z = true) : (Jvm.Cond.instanceMethod ({ cls := "java/util/TreeMap", name := "entrySet", desc := "()Ljava/util/Set;" } : Jvm.MethodName)).before a0 Z = true := hw _ (List.mem_of_getElem? (i := 97) rfl)
theorem tw98 {Z : State} {a0 : Array Value} (hw : ∀ d ∈ tables_1, d.before a0 Z = true) : (Jvm.Cond.publicMethod ({ cls := "java/util/TreeMap", name := "entrySet", desc := "()Ljava/util/Set;" } : Jvm.MethodName)).before a0 Z = true := hw _ (List.mem_of_getElem? (i := 98) rfl)
theorem tw99 {Z : State} {a0 : Array Value} (hw : ∀ d ∈ tables_1, d.before a0 Z = true) : (Jvm.Cond.unhidden "java/util/TreeMap" "entrySet" "()Ljava/util/Set;").before a0 Z = true := hw _ (List.mem_of_getElem? (i := 99) rfl)
theorem tw100 {Z : State} {a0 : Array Value} (hw : ∀ d ∈ tables_1, d.before a0 Z = true) : (Jvm.Cond.castable "java/util/TreeMap" "java/util/Map").before a0 Z = true := hw _ (List.mem_of_getElem? (i := 100) rfl)
theorem tw101 {Z : State} {a0 : Array Value} (hw : ∀ d ∈ tables_1, d.before a0 Z = true) : (Jvm.Cond.code ({ cls := "java/util/TreeMap", name := "entrySet", desc := "()Ljava/util/Set;" } : Jvm.MethodName) jdk_2729_method_53_code (2 : Nat) (Option.some (Jvm.ClassFile.FieldType.object "java/util/Set"))).before a0 Z = true := hw _ (List.mem_of_getElem? (i := 101) rfl)
theorem tw102 {Z : State} {a0 : Array Value} (hw : ∀ d ∈ tables_1, d.before a0 Z = true) : (Jvm.Cond.fieldLink "java/util/TreeMap" (188 : Nat) "java/util/TreeMap" "entrySet" "Ljava/util/TreeMap$EntrySet;").before a0 Z = true := hw _ (List.mem_of_getElem? (i := 102) rfl)
theorem tw103 {Z : State} {a0 : Array Value} (hw : ∀ d ∈ tables_1, d.before a0 Z = true) : (Jvm.Cond.lays "java/util/TreeMap" "java/util/TreeMap" "entrySet" "Ljava/util/TreeMap$EntrySet;").before a0 Z = true := hw _ (List.mem_of_getElem? (i := 103) rfl)
theorem tw104 {Z : State} {a0 : Array Value} (hw : ∀ d ∈ tables_1, d.before a0 Z = true) : (Jvm.Cond.classLink "java/util/TreeMap" (242 : Nat) "java/util/TreeMap$EntrySet").before a0 Z = true := hw _ (List.mem_of_getElem? (i := 104) rfl)
theorem tw105 {Z : State} {a0 : Array Value} (hw : ∀ d ∈ tables_1, d.before a0 Z = true) : (Jvm.Cond.instantiable "java/util/TreeMap$EntrySet" (1 : Nat)).before a0 Z = true := hw _ (List.mem_of_getElem? (i := 105) rfl)
theorem tw106 {Z : State} {a0 : Array Value} (hw : ∀ d ∈ tables_1, d.before a0 Z = true) : (Jvm.Cond.initialized "java/util/TreeMap$EntrySet").before a0 Z = true := hw _ (List.mem_of_getElem? (i := 106) rfl)
theorem tw107 {Z : State} {a0 : Array Value} (hw : ∀ d ∈ tables_1, d.before a0 Z = true) : (Jvm.Cond.methodLink "java/util/TreeMap" (244 : Nat) ({ cls := "java/util/TreeMap$EntrySet", name := "<init>", desc := "(Ljava/util/TreeMap;)V" } : Jvm.MethodName)).before a0 Z = true := hw _ (List.mem_of_getElem? (i := 107) rfl)
theorem tw108 {Z : State} {a0 : Array Value} (hw : ∀ d ∈ tables_1, d.before a0 Z = true) : (Jvm.Cond.instanceMethod ({ cls := "java/util/TreeMap$EntrySet", name := "<init>", desc := "(Ljava/util/TreeMap;)V" } : Jvm.MethodName)).before a0 Z = true := hw _ (List.mem_of_getElem? (i := 108) rfl)
theorem tw110 {Z : State} {a0 : Array Value} (hw : ∀ d ∈ tables_1, d.before a0 Z = true) : (Jvm.Cond.code ({ cls := "java/util/TreeMap$EntrySet", name := "<init>", desc := "(Ljava/util/TreeMap;)V" } : Jvm.MethodName) jdk_2738_method_1_code (2 : Nat) (Option.none : Option Jvm.ClassFile.FieldType)).before a0 Z = true := hw _ (List.mem_of_getElem? (i := 110) rfl)
theorem tw111 {Z : State} {a0 : Array Value} (hw : ∀ d ∈ tables_1, d.before a0 Z = true) : (Jvm.Cond.fieldLink "java/util/TreeMap$EntrySet" (1 : Nat) "java/util/TreeMap$EntrySet" "this$0" "Ljava/util/TreeMap;").before a0 Z = true := hw _ (List.mem_of_getElem? (i := 111) rfl)
theorem tw112 {Z : State} {a0 : Array Value} (hw : ∀ d ∈ tables_1, d.before a0 Z = true) : (Jvm.Cond.laysFinal "java/util/TreeMap$EntrySet" "java/util/TreeMap$EntrySet" "this$0" "Ljava/util/TreeMap;").before a0 Z = true := hw _ (List.mem_of_getElem? (i := 112) rfl)
theorem tw113 {Z : State} {a0 : Array Value} (hw : ∀ d ∈ tables_1, d.before a0 Z = true) : (Jvm.Cond.methodLink "java/util/TreeMap$EntrySet" (7 : Nat) ({ cls := "java/util/AbstractSet", name := "<init>", desc := "()V" } : Jvm.MethodName)).before a0 Z = true := hw _ (List.mem_of_getElem? (i := 113) rfl)
theorem tw114 {Z : State} {a0 : Array Value} (hw : ∀ d ∈ tables_1, d.before a0 Z = true) : (Jvm.Cond.instanceMethod ({ cls := "java/util/AbstractSet", name := "<init>", desc := "()V" } : Jvm.MethodName)).before a0 Z = true := hw _ (List.mem_of_getElem? (i := 114) rfl)
theorem tw117 {Z : State} {a0 : Array Value} (hw : ∀ d ∈ tables_1, d.before a0 Z = true) : (Jvm.Cond.initialized "java/util/AbstractSet").before a0 Z = true := hw _ (List.mem_of_getElem? (i := 117) rfl)
theorem tw118 {Z : State} {a0 : Array Value} (hw : ∀ d ∈ tables_1, d.before a0 Z = true) : (Jvm.Cond.code ({ cls := "java/util/AbstractSet", name := "<init>", desc := "()V" } : Jvm.MethodName) jdk_91_method_1_code (1 : Nat) (Option.none : Option Jvm.ClassFile.FieldType)).before a0 Z = true := hw _ (List.mem_of_getElem? (i := 118) rfl)
theorem tw119 {Z : State} {a0 : Array Value} (hw : ∀ d ∈ tables_1, d.before a0 Z = true) : (Jvm.Cond.methodLink "java/util/AbstractSet" (1 : Nat) ({ cls := "java/util/AbstractCollection", name := "<init>", desc := "()V" } : Jvm.MethodName)).before a0 Z = true := hw _ (List.mem_of_getElem? (i := 119) rfl)
theorem tw120 {Z : State} {a0 : Array Value} (hw : ∀ d ∈ tables_1, d.before a0 Z = true) : (Jvm.Cond.instanceMethod ({ cls := "java/util/AbstractCollection", name := "<init>", desc := "()V" } : Jvm.MethodName)).before a0 Z = true := hw _ (List.mem_of_getElem? (i := 120) rfl)
theorem tw123 {Z : State} {a0 : Array Value} (hw : ∀ d ∈ tables_1, d.before a0 Z = true) : (Jvm.Cond.initialized "java/util/AbstractCollection").before a0 Z = true := hw _ (List.mem_of_getElem? (i := 123) rfl)
theorem tw124 {Z : State} {a0 : Array Value} (hw : ∀ d ∈ tables_1, d.before a0 Z = true) : (Jvm.Cond.code ({ cls := "java/util/AbstractCollection", name := "<init>", desc := "()V" } : Jvm.MethodName) jdk_22_method_1_code (1 : Nat) (Option.none : Option Jvm.ClassFile.FieldType)).before a0 Z = true := hw _ (List.mem_of_getElem? (i := 124) rfl)
theorem tw125 {Z : State} {a0 : Array Value} (hw : ∀ d ∈ tables_1, d.before a0 Z = true) : (Jvm.Cond.methodLink "java/util/AbstractCollection" (1 : Nat) ({ cls := "java/lang/Object", name := "<init>", desc := "()V" } : Jvm.MethodName)).before a0 Z = true := hw _ (List.mem_of_getElem? (i := 125) rfl)
theorem tw126 {Z : State} {a0 : Array Value} (hw : ∀ d ∈ tables_1, d.before a0 Z = true) : (Jvm.Cond.methodLink "java/util/Map" (20 : Nat) ({ cls := "java/util/Set", name := "iterator", desc := "()Ljava/util/Iterator;" } : Jvm.MethodName)).before a0 Z = true := hw _ (List.mem_of_getElem? (i := 126) rfl)
theorem tw127 {Z : State} {a0 : Array Value} (hw : ∀ d ∈ tables_1, d.before a0 Z = true) : (Jvm.Cond.declares ({ cls := "java/util/Set", name := "iterator", desc := "()Ljava/util/Iterator;" } : Jvm.MethodName)).before a0 Z = true := hw _ (List.mem_of_getElem? (i := 127) rfl)
theorem tw128 {Z : State} {a0 : Array Value} (hw : ∀ d ∈ tables_1, d.before a0 Z = true) : (Jvm.Cond.interfaceMethod "java/util/Set" "java/util/Set" "iterator" "()Ljava/util/Iterator;").before a0 Z = true := hw _ (List.mem_of_getElem? (i := 128) rfl)
theorem tw129 {Z : State} {a0 : Array Value} (hw : ∀ d ∈ tables_1, d.before a0 Z = true) : (Jvm.Cond.selects "java/util/TreeMap$EntrySet" ({ cls := "java/util/Set", name := "iterator", desc := "()Ljava/util/Iterator;" } : Jvm.MethodName) ({ cls := "java/util/TreeMap$EntrySet", name := "iterator", desc := "()Ljava/util/Iterator;" } : Jvm.MethodName)).before a0 Z = true := hw _ (List.mem_of_getElem? (i := 129) rfl)
theorem tw130 {Z : State} {a0 : Array Value} (hw : ∀ d ∈ tables_1, d.before a0 Z = true) : (Jvm.Cond.instanceMethod ({ cls := "java/util/TreeMap$EntrySet", name := "iterator", desc := "()Ljava/util/Iterator;" } : Jvm.MethodName)).before a0 Z = true := hw _ (List.mem_of_getElem? (i := 130) rfl)
theorem tw131 {Z : State} {a0 : Array Value} (hw : ∀ d ∈ tables_1, d.before a0 Z = true) : (Jvm.Cond.publicMethod ({ cls := "java/util/TreeMap$EntrySet", name := "iterator", desc := "()Ljava/util/Iterator;" } : Jvm.MethodName)).before a0 Z = true := hw _ (List.mem_of_getElem? (i := 131) rfl)
theorem tw132 {Z : State} {a0 : Array Value} (hw : ∀ d ∈ tables_1, d.before a0 Z = true) : (Jvm.Cond.unhidden "java/util/TreeMap$EntrySet" "iterator" "()Ljava/util/Iterator;").before a0 Z = true := hw _ (List.mem_of_getElem? (i := 132) rfl)
theorem tw133 {Z : State} {a0 : Array Value} (hw : ∀ d ∈ tables_1, d.before a0 Z = true) : (Jvm.Cond.castable "java/util/TreeMap$EntrySet" "java/util/Set").before a0 Z = true := hw _ (List.mem_of_getElem? (i := 133) rfl)
theorem tw134 {Z : State} {a0 : Array Value} (hw : ∀ d ∈ tables_1, d.before a0 Z = true) : (Jvm.Cond.code ({ cls := "java/util/TreeMap$EntrySet", name := "iterator", desc := "()Ljava/util/Iterator;" } : Jvm.MethodName) jdk_2738_method_2_code (1 : Nat) (Option.some (Jvm.ClassFile.FieldType.object "java/util/Iterator"))).before a0 Z = true := hw _ (List.mem_of_getElem? (i := 134) rfl)
theorem tw135 {Z : State} {a0 : Array Value} (hw : ∀ d ∈ tables_1, d.before a0 Z = true) : (Jvm.Cond.classLink "java/util/TreeMap$EntrySet" (13 : Nat) "java/util/TreeMap$EntryIterator").before a0 Z = true := hw _ (List.mem_of_getElem? (i := 135) rfl)
theorem tw136 {Z : State} {a0 : Array Value} (hw : ∀ d ∈ tables_1, d.before a0 Z = true) : (Jvm.Cond.instantiable "java/util/TreeMap$EntryIterator" (4 : Nat)).before a0 Z = true := hw _ (List.mem_of_getElem? (i := 136) rfl)
theorem tw137 {Z : State} {a0 : Array Value} (hw : ∀ d ∈ tables_1, d.before a0 Z = true) : (Jvm.Cond.initialized "java/util/TreeMap$EntryIterator").before a0 Z = true := hw _ (List.mem_of_getElem? (i := 137) rfl)
theorem tw138 {Z : State} {a0 : Array Value} (hw : ∀ d ∈ tables_1, d.before a0 Z = true) : (Jvm.Cond.methodLink "java/util/TreeMap$EntrySet" (15 : Nat) ({ cls := "java/util/TreeMap", name := "getFirstEntry", desc := "()Ljava/util/TreeMap$Entry;" } : Jvm.MethodName)).before a0 Z = true := hw _ (List.mem_of_getElem? (i := 138) rfl)
theorem tw139 {Z : State} {a0 : Array Value} (hw : ∀ d ∈ tables_1, d.before a0 Z = true) : (Jvm.Cond.declares ({ cls := "java/util/TreeMap", name := "getFirstEntry", desc := "()Ljava/util/TreeMap$Entry;" } : Jvm.MethodName)).before a0 Z = true := hw _ (List.mem_of_getElem? (i := 139) rfl)
theorem tw140 {Z : State} {a0 : Array Value} (hw : ∀ d ∈ tables_1, d.before a0 Z = true) : (Jvm.Cond.instanceMethod ({ cls := "java/util/TreeMap", name := "getFirstEntry", desc := "()Ljava/util/TreeMap$Entry;" } : Jvm.MethodName)).before a0 Z = true := hw _ (List.mem_of_getElem? (i := 140) rfl)
theorem tw141 {Z : State} {a0 : Array Value} (hw : ∀ d ∈ tables_1, d.before a0 Z = true) : (Jvm.Cond.selects "java/util/TreeMap" ({ cls := "java/util/TreeMap", name := "getFirstEntry", desc := "()Ljava/util/TreeMap$Entry;" } : Jvm.MethodName) ({ cls := "java/util/TreeMap", name := "getFirstEntry", desc := "()Ljava/util/TreeMap$Entry;" } : Jvm.MethodName)).before a0 Z = true := hw _ (List.mem_of_getElem? (i := 141) rfl)
theorem tw142 {Z : State} {a0 : Array Value} (hw : ∀ d ∈ tables_1, d.before a0 Z = true) : (Jvm.Cond.code ({ cls := "java/util/TreeMap", name := "getFirstEntry", desc := "()Ljava/util/TreeMap$Entry;" } : Jvm.MethodName) jdk_2729_method_72_code (2 : Nat) (Option.some (Jvm.ClassFile.FieldType.object "java/util/TreeMap$Entry"))).before a0 Z = true := hw _ (List.mem_of_getElem? (i := 142) rfl)
theorem tw143 {Z : State} {a0 : Array Value} (hw : ∀ d ∈ tables_1, d.before a0 Z = true) : (Jvm.Cond.fieldLink "java/util/TreeMap" (101 : Nat) "java/util/TreeMap" "root" "Ljava/util/TreeMap$Entry;").before a0 Z = true := hw _ (List.mem_of_getElem? (i := 143) rfl)
theorem tw144 {Z : State} {a0 : Array Value} (hw : ∀ d ∈ tables_1, d.before a0 Z = true) : (Jvm.Cond.lays "java/util/TreeMap" "java/util/TreeMap" "root" "Ljava/util/TreeMap$Entry;").before a0 Z = true := hw _ (List.mem_of_getElem? (i := 144) rfl)
theorem tw145 {Z : State} {a0 : Array Value} (hw : ∀ d ∈ tables_1, d.before a0 Z = true) : (Jvm.Cond.methodLink "java/util/TreeMap$EntrySet" (21 : Nat) ({ cls := "java/util/TreeMap$EntryIterator", name := "<init>", desc := "(Ljava/util/TreeMap;Ljava/util/TreeMap$Entry;)V" } : Jvm.MethodName)).before a0 Z = true := hw _ (List.mem_of_getElem? (i := 145) rfl)
theorem tw146 {Z : State} {a0 : Array Value} (hw : ∀ d ∈ tables_1, d.before a0 Z = true) : (Jvm.Cond.instanceMethod ({ cls := "java/util/TreeMap$EntryIterator", name := "<init>", desc := "(Ljava/util/TreeMap;Ljava/util/TreeMap$Entry;)V" } : Jvm.MethodName)).before a0 Z = true := hw _ (List.mem_of_getElem? (i := 146) rfl)
theorem tw148 {Z : State} {a0 : Array Value} (hw : ∀ d ∈ tables_1, d.before a0 Z = true) : (Jvm.Cond.code ({ cls := "java/util/TreeMap$EntryIterator", name := "<init>", desc := "(Ljava/util/TreeMap;Ljava/util/TreeMap$Entry;)V" } : Jvm.MethodName) jdk_2737_method_1_code (3 : Nat) (Option.none : Option Jvm.ClassFile.FieldType)).before a0 Z = true := hw _ (List.mem_of_getElem? (i := 148) rfl)
theorem tw149 {Z : State} {a0 : Array Value} (hw : ∀ d ∈ tables_1, d.before a0 Z = true) : (Jvm.Cond.methodLink "java/util/TreeMap$EntryIterator" (1 : Nat) ({ cls := "java/util/TreeMap$PrivateEntryIterator", name := "<init>", desc := "(Ljava/util/TreeMap;Ljava/util/TreeMap$Entry;)V" } : Jvm.MethodName)).before a0 Z = true := hw _ (List.mem_of_getElem? (i := 149) rfl)
theorem tw150 {Z : State} {a0 : Array Value} (hw : ∀ d ∈ tables_1, d.before a0 Z = true) : (Jvm.Cond.instanceMethod ({ cls := "java/util/TreeMap$PrivateEntryIterator", name := "<init>", desc := "(Ljava/util/TreeMap;Ljava/util/TreeMap$Entry;)V" } : Jvm.MethodName)).before a0 Z = true := hw _ (List.mem_of_getElem? (i := 150) rfl)
theorem tw153 {Z : State} {a0 : Array Value} (hw : ∀ d ∈ tables_1, d.before a0 Z = true) : (Jvm.Cond.initialized "java/util/TreeMap$PrivateEntryIterator").before a0 Z = true := hw _ (List.mem_of_getElem? (i := 153) rfl)
theorem tw154 {Z : State} {a0 : Array Value} (hw : ∀ d ∈ tables_1, d.before a0 Z = true) : (Jvm.Cond.code ({ cls := "java/util/TreeMap$PrivateEntryIterator", name := "<init>", desc := "(Ljava/util/TreeMap;Ljava/util/TreeMap$Entry;)V" } : Jvm.MethodName) jdk_2750_method_1_code (3 : Nat) (Option.none : Option Jvm.ClassFile.FieldType)).before a0 Z = true := hw _ (List.mem_of_getElem? (i := 154) rfl)
theorem tw155 {Z : State} {a0 : Array Value} (hw : ∀ d ∈ tables_1, d.before a0 Z = true) : (Jvm.Cond.fieldLink "java/util/TreeMap$PrivateEntryIterator" (1 : Nat) "java/util/TreeMap$PrivateEntryIterator" "this$0" "Ljava/util/TreeMap;").before a0 Z = true := hw _ (List.mem_of_getElem? (i := 155) rfl)
theorem tw156 {Z : State} {a0 : Array Value} (hw : ∀ d ∈ tables_1, d.before a0 Z = true) : (Jvm.Cond.laysFinal "java/util/TreeMap$EntryIterator" "java/util/TreeMap$PrivateEntryIterator" "this$0" "Ljava/util/TreeMap;").before a0 Z = true := hw _ (List.mem_of_getElem? (i := 156) rfl)
theorem tw157 {Z : State} {a0 : Array Value} (hw : ∀ d ∈ tables_1, d.before a0 Z = true) : (Jvm.Cond.methodLink "java/util/TreeMap$PrivateEntryIterator" (7 : Nat) ({ cls := "java/lang/Object", name := "<init>", desc := "()V" } : Jvm.MethodName)).before a0 Z = true := hw _ (List.mem_of_getElem? (i := 157) rfl)
theorem tw158 {Z : State} {a0 : Array Value} (hw : ∀ d ∈ tables_1, d.before a0 Z = true) : (Jvm.Cond.fieldRef "java/util/TreeMap$PrivateEntryIterator" (13 : Nat) "java/util/TreeMap" "modCount" "I").before a0 Z = true := hw _ (List.mem_of_getElem? (i := 158) rfl)
theorem tw159 {Z : State} {a0 : Array Value} (hw : ∀ d ∈ tables_1, d.before a0 Z = true) : (Jvm.Cond.fieldLink "java/util/TreeMap$PrivateEntryIterator" (19 : Nat) "java/util/TreeMap$PrivateEntryIterator" "expectedModCount" "I").before a0 Z = true := hw _ (List.mem_of_getElem? (i := 159) rfl)
theorem tw160 {Z : State} {a0 : Array Value} (hw : ∀ d ∈ tables_1, d.before a0 Z = true) : (Jvm.Cond.lays "java/util/TreeMap$EntryIterator" "java/util/TreeMap$PrivateEntryIterator" "expectedModCount" "I").before a0 Z = true := hw _ (List.mem_of_getElem? (i := 160) rfl)
theorem tw161 {Z : State} {a0 : Array Value} (hw : ∀ d ∈ tables_1, d.before a0 Z = true) : (Jvm.Cond.fieldLink "java/util/TreeMap$PrivateEntryIterator" (22 : Nat) "java/util/TreeMap$PrivateEntryIterator" "lastReturned" "Ljava/util/TreeMap$Entry;").before a0 Z = true := hw _ (List.mem_of_getElem? (i := 161) rfl)
theorem tw162 {Z : State} {a0 : Array Value} (hw : ∀ d ∈ tables_1, d.before a0 Z = true) : (Jvm.Cond.lays "java/util/TreeMap$EntryIterator" "java/util/TreeMap$PrivateEntryIterator" "lastReturned" "Ljava/util/TreeMap$Entry;").before a0 Z = true := hw _ (List.mem_of_getElem? (i := 162) rfl)
theorem tw163 {Z : State} {a0 : Array Value} (hw : ∀ d ∈ tables_1, d.before a0 Z = true) : (Jvm.Cond.fieldLink "java/util/TreeMap$PrivateEntryIterator" (26 : Nat) "java/util/TreeMap$PrivateEntryIterator" "next" "Ljava/util/TreeMap$Entry;").before a0 Z = true := hw _ (List.mem_of_getElem? (i := 163) rfl)
theorem tw164 {Z : State} {a0 : Array Value} (hw : ∀ d ∈ tables_1, d.before a0 Z = true) : (Jvm.Cond.lays "java/util/TreeMap$EntryIterator" "java/util/TreeMap$PrivateEntryIterator" "next" "Ljava/util/TreeMap$Entry;").before a0 Z = true := hw _ (List.mem_of_getElem? (i := 164) rfl)
theorem tw165 {Z : State} {a0 : Array Value} (hw : ∀ d ∈ tables_1, d.before a0 Z = true) : (Jvm.Cond.methodLink "java/util/Map" (26 : Nat) ({ cls := "java/util/Iterator", name := "hasNext", desc := "()Z" } : Jvm.MethodName)).before a0 Z = true := hw _ (List.mem_of_getElem? (i := 165) rfl)
theorem tw166 {Z : State} {a0 : Array Value} (hw : ∀ d ∈ tables_1, d.before a0 Z = true) : (Jvm.Cond.declares ({ cls := "java/util/Iterator", name := "hasNext", desc := "()Z" } : Jvm.MethodName)).before a0 Z = true := hw _ (List.mem_of_getElem? (i := 166) rfl)
theorem tw167 {Z : State} {a0 : Array Value} (hw : ∀ d ∈ tables_1, d.before a0 Z = true) : (Jvm.Cond.interfaceMethod "java/util/Iterator" "java/util/Iterator" "hasNext" "()Z").before a0 Z = true := hw _ (List.mem_of_getElem? (i := 167) rfl)
theorem tw168 {Z : State} {a0 : Array Value} (hw : ∀ d ∈ tables_1, d.before a0 Z = true) : (Jvm.Cond.selects "java/util/TreeMap$EntryIterator" ({ cls := "java/util/Iterator", name := "hasNext", desc := "()Z" } : Jvm.MethodName) ({ cls := "java/util/TreeMap$PrivateEntryIterator", name := "hasNext", desc := "()Z" } : Jvm.MethodName)).before a0 Z = true := hw _ (List.mem_of_getElem? (i := 168) rfl)
theorem tw169 {Z : State} {a0 : Array Value} (hw : ∀ d ∈ tables_1, d.before a0 Z = true) : (Jvm.Cond.instanceMethod ({ cls := "java/util/TreeMap$PrivateEntryIterator", name := "hasNext", desc := "()Z" } : Jvm.MethodName)).before a0 Z = true := hw _ (List.mem_of_getElem? (i := 169) rfl)
theorem tw170 {Z : State} {a0 : Array Value} (hw : ∀ d ∈ tables_1, d.before a0 Z = true) : (Jvm.Cond.publicMethod ({ cls := "java/util/TreeMap$PrivateEntryIterator", name := "hasNext", desc := "()Z" } : Jvm.MethodName)).before a0 Z = true := hw _ (List.mem_of_getElem? (i := 170) rfl)
theorem tw171 {Z : State} {a0 : Array Value} (hw : ∀ d ∈ tables_1, d.before a0 Z = true) : (Jvm.Cond.unhidden "java/util/TreeMap$EntryIterator" "hasNext" "()Z").before a0 Z = true := hw _ (List.mem_of_getElem? (i := 171) rfl)
theorem tw172 {Z : State} {a0 : Array Value} (hw : ∀ d ∈ tables_1, d.before a0 Z = true) : (Jvm.Cond.castable "java/util/TreeMap$EntryIterator" "java/util/Iterator").before a0 Z = true := hw _ (List.mem_of_getElem? (i := 172) rfl)
theorem tw173 {Z : State} {a0 : Array Value} (hw : ∀ d ∈ tables_1, d.before a0 Z = true) : (Jvm.Cond.code ({ cls := "java/util/TreeMap$PrivateEntryIterator", name := "hasNext", desc := "()Z" } : Jvm.MethodName) jdk_2750_method_2_code (1 : Nat) (Option.some Jvm.ClassFile.FieldType.boolean)).before a0 Z = true := hw _ (List.mem_of_getElem? (i := 173) rfl)
theorem tw174 {Z : State} {a0 : Array Value} (hw : ∀ d ∈ tables_1, d.before a0 Z = true) : (Jvm.Cond.classLink "com/example/gate_to_handlers/gatetohandlers/HttpHeaders" (14 : Nat) "com/example/gate_to_handlers/gatetohandlers/HttpHeaders").before a0 Z = true := hw _ (List.mem_of_getElem? (i := 174) rfl)
theorem tw175 {Z : State} {a0 : Array Value} (hw : ∀ d ∈ tables_1, d.before a0 Z = true) : (Jvm.Cond.methodLink "com/example/gate_to_handlers/gatetohandlers/HttpHeaders" (35 : Nat) ({ cls := "java/util/Collections", name := "unmodifiableMap", desc := "(Ljava/util/Map;)Ljava/util/Map;" } : Jvm.MethodName)).before a0 Z = true := hw _ (List.mem_of_getElem? (i := 175) rfl)
theorem tw176 {Z : State} {a0 : Array Value} (hw : ∀ d ∈ tables_1, d.before a0 Z = true) : (Jvm.Cond.static ({ cls := "java/util/Collections", name := "unmodifiableMap", desc := "(Ljava/util/Map;)Ljava/util/Map;" } : Jvm.MethodName)).before a0 Z = true := hw _ (List.mem_of_getElem? (i := 176) rfl)
theorem tw177 {Z : State} {a0 : Array Value} (hw : ∀ d ∈ tables_1, d.before a0 Z = true) : (Jvm.Cond.initialized "java/util/Collections").before a0 Z = true := hw _ (List.mem_of_getElem? (i := 177) rfl)
theorem tw178 {Z : State} {a0 : Array Value} (hw : ∀ d ∈ tables_1, d.before a0 Z = true) : (Jvm.Cond.code ({ cls := "java/util/Collections", name := "unmodifiableMap", desc := "(Ljava/util/Map;)Ljava/util/Map;" } : Jvm.MethodName) jdk_79_method_36_code (1 : Nat) (Option.some (Jvm.ClassFile.FieldType.object "java/util/Map"))).before a0 Z = true := hw _ (List.mem_of_getElem? (i := 178) rfl)
theorem tw179 {Z : State} {a0 : Array Value} (hw : ∀ d ∈ tables_1, d.before a0 Z = true) : (Jvm.Cond.methodLink "java/util/Collections" (220 : Nat) ({ cls := "java/util/Map", name := "getClass", desc := "()Ljava/lang/Class;" } : Jvm.MethodName)).before a0 Z = true := hw _ (List.mem_of_getElem? (i := 179) rfl)
theorem tw180 {Z : State} {a0 : Array Value} (hw : ∀ d ∈ tables_1, d.before a0 Z = true) : (Jvm.Cond.declares ({ cls := "java/lang/Object", name := "getClass", desc := "()Ljava/lang/Class;" } : Jvm.MethodName)).before a0 Z = true := hw _ (List.mem_of_getElem? (i := 180) rfl)
theorem tw181 {Z : State} {a0 : Array Value} (hw : ∀ d ∈ tables_1, d.before a0 Z = true) : (Jvm.Cond.interfaceMethod "java/util/Map" "java/lang/Object" "getClass" "()Ljava/lang/Class;").before a0 Z = true := hw _ (List.mem_of_getElem? (i := 181) rfl)
theorem tw182 {Z : State} {a0 : Array Value} (hw : ∀ d ∈ tables_1, d.before a0 Z = true) : (Jvm.Cond.selects "java/util/TreeMap" ({ cls := "java/util/Map", name := "getClass", desc := "()Ljava/lang/Class;" } : Jvm.MethodName) ({ cls := "java/lang/Object", name := "getClass", desc := "()Ljava/lang/Class;" } : Jvm.MethodName)).before a0 Z = true := hw _ (List.mem_of_getElem? (i := 182) rfl)
theorem tw183 {Z : State} {a0 : Array Value} (hw : ∀ d ∈ tables_1, d.before a0 Z = true) : (Jvm.Cond.instanceMethod ({ cls := "java/lang/Object", name := "getClass", desc := "()Ljava/lang/Class;" } : Jvm.MethodName)).before a0 Z = true := hw _ (List.mem_of_getElem? (i := 183) rfl)
theorem tw184 {Z : State} {a0 : Array Value} (hw : ∀ d ∈ tables_1, d.before a0 Z = true) : (Jvm.Cond.publicMethod ({ cls := "java/lang/Object", name := "getClass", desc := "()Ljava/lang/Class;" } : Jvm.MethodName)).before a0 Z = true := hw _ (List.mem_of_getElem? (i := 184) rfl)
theorem tw185 {Z : State} {a0 : Array Value} (hw : ∀ d ∈ tables_1, d.before a0 Z = true) : (Jvm.Cond.unhidden "java/util/TreeMap" "getClass" "()Ljava/lang/Class;").before a0 Z = true := hw _ (List.mem_of_getElem? (i := 185) rfl)
theorem tw186 {Z : State} {a0 : Array Value} (hw : ∀ d ∈ tables_1, d.before a0 Z = true) : (Jvm.Cond.native ({ cls := "java/lang/Object", name := "getClass", desc := "()Ljava/lang/Class;" } : Jvm.MethodName)).before a0 Z = true := hw _ (List.mem_of_getElem? (i := 186) rfl)
theorem tw188 {Z : State} {a0 : Array Value} (hw : ∀ d ∈ tables_1, d.before a0 Z = true) : (Jvm.Cond.classLink "java/util/Collections" (223 : Nat) "java/util/Collections$UnmodifiableMap").before a0 Z = true := hw _ (List.mem_of_getElem? (i := 188) rfl)
theorem tw190 {Z : State} {a0 : Array Value} (hw : ∀ d ∈ tables_1, d.before a0 Z = true) : (Jvm.Cond.instantiable "java/util/Collections$UnmodifiableMap" (4 : Nat)).before a0 Z = true := hw _ (List.mem_of_getElem? (i := 190) rfl)
theorem tw191 {Z : State} {a0 : Array Value} (hw : ∀ d ∈ tables_1, d.before a0 Z = true) : (Jvm.Cond.initialized "java/util/Collections$UnmodifiableMap").before a0 Z = true := hw _ (List.mem_of_getElem? (i := 191) rfl)
theorem tw192 {Z : State} {a0 : Array Value} (hw : ∀ d ∈ tables_1, d.before a0 Z = true) : (Jvm.Cond.methodLink "java/util/Collections" (225 : Nat) ({ cls := "java/util/Collections$UnmodifiableMap", name := "<init>", desc := "(Ljava/util/Map;)V" } : Jvm.MethodName)).before a0 Z = true := hw _ (List.mem_of_getElem? (i := 192) rfl)
theorem tw193 {Z : State} {a0 : Array Value} (hw : ∀ d ∈ tables_1, d.before a0 Z = true) : (Jvm.Cond.instanceMethod ({ cls := "java/util/Collections$UnmodifiableMap", name := "<init>", desc := "(Ljava/util/Map;)V" } : Jvm.MethodName)).before a0 Z = true := hw _ (List.mem_of_getElem? (i := 193) rfl)
theorem tw194 {Z : State} {a0 : Array Value} (hw : ∀ d ∈ tables_1, d.before a0 Z = true) : (Jvm.Cond.code ({ cls := "java/util/Collections$UnmodifiableMap", name := "<init>", desc := "(Ljava/util/Map;)V" } : Jvm.MethodName) jdk_2500_method_1_code (2 : Nat) (Option.none : Option Jvm.ClassFile.FieldType)).before a0 Z = true := hw _ (List.mem_of_getElem? (i := 194) rfl)
theorem tw195 {Z : State} {a0 : Array Value} (hw : ∀ d ∈ tables_1, d.before a0 Z = true) : (Jvm.Cond.methodLink "java/util/Collections$UnmodifiableMap" (1 : Nat) ({ cls := "java/lang/Object", name := "<init>", desc := "()V" } : Jvm.MethodName)).before a0 Z = true := hw _ (List.mem_of_getElem? (i := 195) rfl)
theorem tw196 {Z : State} {a0 : Array Value} (hw : ∀ d ∈ tables_1, d.before a0 Z = true) : (Jvm.Cond.fieldLink "java/util/Collections$UnmodifiableMap" (10 : Nat) "java/util/Collections$UnmodifiableMap" "m" "Ljava/util/Map;").before a0 Z = true := hw _ (List.mem_of_getElem? (i := 196) rfl)
theorem tw197 {Z : State} {a0 : Array Value} (hw : ∀ d ∈ tables_1, d.before a0 Z = true) : (Jvm.Cond.laysFinal "java/util/Collections$UnmodifiableMap" "java/util/Collections$UnmodifiableMap" "m" "Ljava/util/Map;").before a0 Z = true := hw _ (List.mem_of_getElem? (i := 197) rfl)
theorem tw198 {Z : State} {a0 : Array Value} (hw : ∀ d ∈ tables_1, d.before a0 Z = true) : (Jvm.Cond.fieldLink "com/example/gate_to_handlers/gatetohandlers/HttpEntity" (23 : Nat) "com/example/gate_to_handlers/gatetohandlers/HttpEntity" "headers" "Lcom/example/gate_to_handlers/gatetohandlers/HttpHeaders;").before a0 Z = true := hw _ (List.mem_of_getElem? (i := 198) rfl)
theorem tw199 {Z : State} {a0 : Array Value} (hw : ∀ d ∈ tables_1, d.before a0 Z = true) : (Jvm.Cond.laysFinal "com/example/gate_to_handlers/gatetohandlers/HttpEntity" "com/example/gate_to_handlers/gatetohandlers/HttpEntity" "headers" "Lcom/example/gate_to_handlers/gatetohandlers/HttpHeaders;").before a0 Z = true := hw _ (List.mem_of_getElem? (i := 199) rfl)
theorem tw200 {Z : State} {a0 : Array Value} (hw : ∀ d ∈ tables_1, d.before a0 Z = true) : (Jvm.Cond.methodLink "com/example/gate_to_handlers/gatetohandlers/HttpEntityHasBodyPinLaw" (27 : Nat) ({ cls := "com/example/gate_to_handlers/gatetohandlers/HttpEntity", name := "hasBody", desc := "()Z" } : Jvm.MethodName)).before a0 Z = true := hw _ (List.mem_of_getElem? (i := 200) rfl)
theorem tw201 {Z : State} {a0 : Array Value} (hw : ∀ d ∈ tables_1, d.before a0 Z = true) : (Jvm.Cond.declares ({ cls := "com/example/gate_to_handlers/gatetohandlers/HttpEntity", name := "hasBody", desc := "()Z" } : Jvm.MethodName)).before a0 Z = true := hw _ (List.mem_of_getElem? (i := 201) rfl)
theorem tw202 {Z : State} {a0 : Array Value} (hw : ∀ d ∈ tables_1, d.before a0 Z = true) : (Jvm.Cond.instanceMethod ({ cls := "com/example/gate_to_handlers/gatetohandlers/HttpEntity", name := "hasBody", desc := "()Z" } : Jvm.MethodName)).before a0 Z = true := hw _ (List.mem_of_getElem? (i := 202) rfl)
theorem tw203 {Z : State} {a0 : Array Value} (hw : ∀ d ∈ tables_1, d.before a0 Z = true) : (Jvm.Cond.selects "com/example/gate_to_handlers/gatetohandlers/HttpEntity" ({ cls := "com/example/gate_to_handlers/gatetohandlers/HttpEntity", name := "hasBody", desc := "()Z" } : Jvm.MethodName) ({ cls := "com/example/gate_to_handlers/gatetohandlers/HttpEntity", name := "hasBody", desc := "()Z" } : Jvm.MethodName)).before a0 Z = true := hw _ (List.mem_of_getElem? (i := 203) rfl)
theorem tw204 {Z : State} {a0 : Array Value} (hw : ∀ d ∈ tables_1, d.before a0 Z = true) : (Jvm.Cond.code ({ cls := "com/example/gate_to_handlers/gatetohandlers/HttpEntity", name := "hasBody", desc := "()Z" } : Jvm.MethodName) prog_56_method_7_code (1 : Nat) (Option.some Jvm.ClassFile.FieldType.boolean)).before a0 Z = true := hw _ (List.mem_of_getElem? (i := 204) rfl)
theorem tw205 {Z : State} {a0 : Array Value} (hw : ∀ d ∈ tables_1, d.before a0 Z = true) : (Jvm.Cond.methodLink "com/example/gate_to_handlers/gatetohandlers/HttpEntityHasBodyPinLaw" (31 : Nat) ({ cls := "com/example/gate_to_handlers/gatetohandlers/HttpEntity", name := "getBody", desc := "()Ljava/lang/Object;" } : Jvm.MethodName)).before a0 Z = true := hw _ (List.mem_of_getElem? (i := 205) rfl)
theorem tw206 {Z : State} {a0 : Array Value} (hw : ∀ d ∈ tables_1, d.before a0 Z = true) : (Jvm.Cond.declares ({ cls := "com/example/gate_to_handlers/gatetohandlers/HttpEntity", name := "getBody", desc := "()Ljava/lang/Object;" } : Jvm.MethodName)).before a0 Z = true := hw _ (List.mem_of_getElem? (i := 206) rfl)
theorem tw207 {Z : State} {a0 : Array Value} (hw : ∀ d ∈ tables_1, d.before a0 Z = true) : (Jvm.Cond.instanceMethod ({ cls := "com/example/gate_to_handlers/gatetohandlers/HttpEntity", name := "getBody", desc := "()Ljava/lang/Object;" } : Jvm.MethodName)).before a0 Z = true := hw _ (List.mem_of_getElem? (i := 207) rfl)
theorem tw208 {Z : State} {a0 : Array Value} (hw : ∀ d ∈ tables_1, d.before a0 Z = true) : (Jvm.Cond.selects "com/example/gate_to_handlers/gatetohandlers/HttpEntity" ({ cls := "com/example/gate_to_handlers/gatetohandlers/HttpEntity", name := "getBody", desc := "()Ljava/lang/Object;" } : Jvm.MethodName) ({ cls := "com/example/gate_to_handlers/gatetohandlers/HttpEntity", name := "getBody", desc := "()Ljava/lang/Object;" } : Jvm.MethodName)).before a0 Z = true := hw _ (List.mem_of_getElem? (i := 208) rfl)
theorem tw209 {Z : State} {a0 : Array Value} (hw : ∀ d ∈ tables_1, d.before a0 Z = true) : (Jvm.Cond.code ({ cls := "com/example/gate_to_handlers/gatetohandlers/HttpEntity", name := "getBody", desc := "()Ljava/lang/Object;" } : Jvm.MethodName) prog_56_method_6_code (1 : Nat) (Option.some (Jvm.ClassFile.FieldType.object "java/lang/Object"))).before a0 Z = true := hw _ (List.mem_of_getElem? (i := 209) rfl)
theorem tw210 {Z : State} {a0 : Array Value} (hw : ∀ d ∈ tables_1, d.before a0 Z = true) : (Jvm.Cond.methodLink "com/example/gate_to_handlers/gatetohandlers/HttpEntityHasBodyPinLaw" (24 : Nat) ({ cls := "com/example/gate_to_handlers/gatetohandlers/HttpEntity", name := "<init>", desc := "(Lcom/example/gate_to_handlers/gatetohandlers/HttpHeaders;)V" } : Jvm.MethodName)).before a0 Z = true := hw _ (List.mem_of_getElem? (i := 210) rfl)
theorem tw211 {Z : State} {a0 : Array Value} (hw : ∀ d ∈ tables_1, d.before a0 Z = true) : (Jvm.Cond.instanceMethod ({ cls := "com/example/gate_to_handlers/gatetohandlers/HttpEntity", name := "<init>", desc := "(Lcom/example/gate_to_handlers/gatetohandlers/HttpHeaders;)V" } : Jvm.MethodName)).before a0 Z = true := hw _ (List.mem_of_getElem? (i := 211) rfl)
theorem tw212 {Z : State} {a0 : Array Value} (hw : ∀ d ∈ tables_1, d.before a0 Z = true) : (Jvm.Cond.code ({ cls := "com/example/gate_to_handlers/gatetohandlers/HttpEntity", name := "<init>", desc := "(Lcom/example/gate_to_handlers/gatetohandlers/HttpHeaders;)V" } : Jvm.MethodName) prog_56_method_3_code (2 : Nat) (Option.none : Option Jvm.ClassFile.FieldType)).before a0 Z = true := hw _ (List.mem_of_getElem? (i := 212) rfl)
theorem tw213 {Z : State} {a0 : Array Value} (hw : ∀ d ∈ tables_1, d.before a0 Z = true) : (Jvm.Cond.methodLink "com/example/gate_to_handlers/gatetohandlers/HttpEntityHasBodyPinLaw" (21 : Nat) ({ cls := "com/example/gate_to_handlers/gatetohandlers/HttpEntity", name := "<init>", desc := "(Ljava/lang/Object;Lcom/example/gate_to_handlers/gatetohandlers/HttpHeaders;)V" } : Jvm.MethodName)).before a0 Z = true := hw _ (List.mem_of_getElem? (i := 213) rfl)
theorem tw214 {Z : State} {a0 : Array Value} (hw : ∀ d ∈ tables_1, d.before a0 Z = true) : (Jvm.Cond.methodLink "com/example/gate_to_handlers/gatetohandlers/HttpEntityHasBodyPinLaw" (18 : Nat) ({ cls := "com/example/gate_to_handlers/gatetohandlers/HttpEntity", name := "<init>", desc := "(Ljava/lang/Object;)V" } : Jvm.MethodName)).before a0 Z = true := hw _ (List.mem_of_getElem? (i := 214) rfl)
theorem tw215 {Z : State} {a0 : Array Value} (hw : ∀ d ∈ tables_1, d.before a0 Z = true) : (Jvm.Cond.instanceMethod ({ cls := "com/example/gate_to_handlers/gatetohandlers/HttpEntity", name := "<init>", desc := "(Ljava/lang/Object;)V" } : Jvm.MethodName)).before a0 Z = true := hw _ (List.mem_of_getElem? (i := 215) rfl)
theorem tw216 {Z : State} {a0 : Array Value} (hw : ∀ d ∈ tables_1, d.before a0 Z = true) : (Jvm.Cond.code ({ cls := "com/example/gate_to_handlers/gatetohandlers/HttpEntity", name := "<init>", desc := "(Ljava/lang/Object;)V" } : Jvm.MethodName) prog_56_method_2_code (2 : Nat) (Option.none : Option Jvm.ClassFile.FieldType)).before a0 Z = true := hw _ (List.mem_of_getElem? (i := 216) rfl)
theorem d0_0 : decode jdk_71_method_1_code 0 = .ok (.aload_n 0, 1) := by decide +kernel
theorem d0_1 : decode jdk_71_method_1_code 1 = .ok (.invokespecial 1, 3) := by decide +kernel
theorem d0_4 : decode jdk_71_method_1_code 4 = .ok (.return_, 1) := by decide +kernel
theorem pn_0 : plainName "java/util/AbstractMap" = true := by first | (simp [plainName, overriddenIn]; done) | decide +kernel
theorem d1_0 : decode jdk_22_method_1_code 0 = .ok (.aload_n 0, 1) := by decide +kernel
theorem d1_1 : decode jdk_22_method_1_code 1 = .ok (.invokespecial 1, 3) := by decide +kernel
theorem d1_4 : decode jdk_22_method_1_code 4 = .ok (.return_, 1) := by decide +kernel
theorem pn_1 : plainName "java/util/AbstractCollection" = true := by first | (simp [plainName, overriddenIn]; done) | decide +kernel
theorem d2_0 : decode jdk_91_method_1_code 0 = .ok (.aload_n 0, 1) := by decide +kernel
theorem pd_0 : parseMethodDescriptor "()V" = some ⟨[], none⟩ := by decide +kernel
theorem d2_1 : decode jdk_91_method_1_code 1 = .ok (.invokespecial 1, 3) := by decide +kernel
theorem d2_4 : decode jdk_91_method_1_code 4 = .ok (.return_, 1) := by decide +kernel
theorem pn_2 : plainName "java/util/AbstractSet" = true := by first | (simp [plainName, overriddenIn]; done) | decide +kernel
theorem d3_0 : decode jdk_31_method_10_code 0 = .ok (.aload_n 0, 1) := by decide +kernel
theorem d3_1 : decode jdk_31_method_10_code 1 = .ok (.ifnonnull 11, 3) := by decide +kernel
theorem d3_12 : decode jdk_31_method_10_code 12 = .ok (.aload_n 0, 1) := by decide +kernel
theorem d3_13 : decode jdk_31_method_10_code 13 = .ok (.areturn, 1) := by decide +kernel
theorem pn_3 : plainName "java/util/Objects" = true := by first | (simp [plainName, overriddenIn]; done) | decide +kernel
theorem d4_0 : decode jdk_2729_method_2_code 0 = .ok (.aload_n 0, 1) := by decide +kernel
theorem d4_1 : decode jdk_2729_method_2_code 1 = .ok (.invokespecial 1, 3) := by decide +kernel
theorem d4_4 : decode jdk_2729_method_2_code 4 = .ok (.aload_n 0, 1) := by decide +kernel
theorem d4_5 : decode jdk_2729_method_2_code 5 = .ok (.iconst 0, 1) := by decide +kernel
theorem d4_6 : decode jdk_2729_method_2_code 6 = .ok (.putfield 7, 3) := by decide +kernel
theorem d4_9 : decode jdk_2729_method_2_code 9 = .ok (.aload_n 0, 1) := by decide +kernel
theorem d4_10 : decode jdk_2729_method_2_code 10 = .ok (.iconst 0, 1) := by decide +kernel
theorem d4_11 : decode jdk_2729_method_2_code 11 = .ok (.putfield 13, 3) := by decide +kernel
theorem d4_14 : decode jdk_2729_method_2_code 14 = .ok (.aload_n 0, 1) := by decide +kernel
theorem d4_15 : decode jdk_2729_method_2_code 15 = .ok (.aload_n 1, 1) := by decide +kernel
theorem d4_16 : decode jdk_2729_method_2_code 16 = .ok (.putfield 16, 3) := by decide +kernel
theorem d4_19 : decode jdk_2729_method_2_code 19 = .ok (.return_, 1) := by decide +kernel
theorem pn_4 : plainName "java/util/TreeMap" = true := by first | (simp [plainName, overriddenIn]; done) | decide +kernel
theorem d5_0 : decode prog_58_method_2_code 0 = .ok (.aload_n 0, 1) := by decide +kernel
theorem d5_1 : decode prog_58_method_2_code 1 = .ok (.invokespecial 18, 3) := by decide +kernel
theorem d5_4 : decode prog_58_method_2_code 4 = .ok (.aload_n 0, 1) := by decide +kernel
theorem d5_5 : decode prog_58_method_2_code 5 = .ok (.aload_n 1, 1) := by decide +kernel
theorem d5_6 : decode prog_58_method_2_code 6 = .ok (.putfield 23, 3) := by decide +kernel
theorem d5_9 : decode prog_58_method_2_code 9 = .ok (.return_, 1) := by decide +kernel
theorem pn_5 : plainName "com/example/gate_to_handlers/gatetohandlers/HttpHeaders" = true := by first | (simp [plainName, overriddenIn]; done) | decide +kernel
theorem d6_0 : decode jdk_2500_method_1_code 0 = .ok (.aload_n 0, 1) := by decide +kernel
theorem d6_1 : decode jdk_2500_method_1_code 1 = .ok (.invokespecial 1, 3) := by decide +kernel
theorem d6_4 : decode jdk_2500_method_1_code 4 = .ok (.aload_n 1, 1) := by decide +kernel
theorem d6_5 : decode jdk_2500_method_1_code 5 = .ok (.ifnonnull 11, 3) := by decide +kernel
theorem d6_16 : decode jdk_2500_method_1_code 16 = .ok (.aload_n 0, 1) := by decide +kernel
theorem d6_17 : decode jdk_2500_method_1_code 17 = .ok (.aload_n 1, 1) := by decide +kernel
theorem d6_18 : decode jdk_2500_method_1_code 18 = .ok (.putfield 10, 3) := by decide +kernel
theorem d6_21 : decode jdk_2500_method_1_code 21 = .ok (.return_, 1) := by decide +kernel
theorem pn_6 : plainName "java/util/Collections$UnmodifiableMap" = true := by first | (simp [plainName, overriddenIn]; done) | decide +kernel
theorem d7_0 : decode prog_58_method_1_code 0 = .ok (.aload_n 0, 1) := by decide +kernel
theorem d7_1 : decode prog_58_method_1_code 1 = .ok (.new 1, 3) := by decide +kernel
theorem d7_4 : decode prog_58_method_1_code 4 = .ok (.dup, 1) := by decide +kernel
theorem d7_5 : decode prog_58_method_1_code 5 = .ok (.getstatic 3, 3) := by decide +kernel
theorem pd_1 : parseMethodDescriptor "(Ljava/util/Comparator;)V" = some ⟨[(.object "java/util/Comparator")], none⟩ := by decide +kernel
theorem d7_8 : decode prog_58_method_1_code 8 = .ok (.invokespecial 9, 3) := by decide +kernel
theorem pd_2 : parseMethodDescriptor "(Ljava/util/Map;)V" = some ⟨[(.object "java/util/Map")], none⟩ := by decide +kernel
theorem d7_11 : decode prog_58_method_1_code 11 = .ok (.invokespecial 13, 3) := by decide +kernel
theorem d7_14 : decode prog_58_method_1_code 14 = .ok (.return_, 1) := by decide +kernel
theorem d8_0 : decode jdk_2738_method_1_code 0 = .ok (.aload_n 0, 1) := by decide +kernel
theorem d8_1 : decode jdk_2738_method_1_code 1 = .ok (.aload_n 1, 1) := by decide +kernel
theorem d8_2 : decode jdk_2738_method_1_code 2 = .ok (.putfield 1, 3) := by decide +kernel
theorem d8_5 : decode jdk_2738_method_1_code 5 = .ok (.aload_n 0, 1) := by decide +kernel
theorem d8_6 : decode jdk_2738_method_1_code 6 = .ok (.invokespecial 7, 3) := by decide +kernel
theorem d8_9 : decode jdk_2738_method_1_code 9 = .ok (.return_, 1) := by decide +kernel
theorem pn_7 : plainName "java/util/TreeMap$EntrySet" = true := by first | (simp [plainName, overriddenIn]; done) | decide +kernel
theorem d9_0 : decode jdk_2729_method_53_code 0 = .ok (.aload_n 0, 1) := by decide +kernel
theorem d9_1 : decode jdk_2729_method_53_code 1 = .ok (.getfield 188, 3) := by decide +kernel
theorem d9_4 : decode jdk_2729_method_53_code 4 = .ok (.astore_n 1, 1) := by decide +kernel
theorem d9_5 : decode jdk_2729_method_53_code 5 = .ok (.aload_n 1, 1) := by decide +kernel
theorem d9_6 : decode jdk_2729_method_53_code 6 = .ok (.ifnull 7, 3) := by decide +kernel
theorem d9_13 : decode jdk_2729_method_53_code 13 = .ok (.aload_n 0, 1) := by decide +kernel
theorem d9_14 : decode jdk_2729_method_53_code 14 = .ok (.new 242, 3) := by decide +kernel
theorem d9_17 : decode jdk_2729_method_53_code 17 = .ok (.dup, 1) := by decide +kernel
theorem d9_18 : decode jdk_2729_method_53_code 18 = .ok (.aload_n 0, 1) := by decide +kernel
theorem pd_3 : parseMethodDescriptor "(Ljava/util/TreeMap;)V" = some ⟨[(.object "java/util/TreeMap")], none⟩ := by decide +kernel
theorem d9_19 : decode jdk_2729_method_53_code 19 = .ok (.invokespecial 244, 3) := by decide +kernel
theorem d9_22 : decode jdk_2729_method_53_code 22 = .ok (.dup_x1, 1) := by decide +kernel
theorem d9_23 : decode jdk_2729_method_53_code 23 = .ok (.putfield 188, 3) := by decide +kernel
theorem d9_26 : decode jdk_2729_method_53_code 26 = .ok (.areturn, 1) := by decide +kernel
theorem d10_0 : decode prog_58_method_26_code 0 = .ok (.aload_n 0, 1) := by decide +kernel
theorem d10_1 : decode prog_58_method_26_code 1 = .ok (.getfield 23, 3) := by decide +kernel
theorem pd_4 : parseMethodDescriptor "()Ljava/util/Set;" = some ⟨[], some (.object "java/util/Set")⟩ := by decide +kernel
theorem d10_4 : decode prog_58_method_26_code 4 = .ok (.invokeinterface 221 1, 5) := by decide +kernel
theorem d10_9 : decode prog_58_method_26_code 9 = .ok (.areturn, 1) := by decide +kernel
theorem d11_0 : decode jdk_2729_method_72_code 0 = .ok (.aload_n 0, 1) := by decide +kernel
theorem d11_1 : decode jdk_2729_method_72_code 1 = .ok (.getfield 101, 3) := by decide +kernel
theorem d11_4 : decode jdk_2729_method_72_code 4 = .ok (.astore_n 1, 1) := by decide +kernel
theorem d11_5 : decode jdk_2729_method_72_code 5 = .ok (.aload_n 1, 1) := by decide +kernel
theorem d11_6 : decode jdk_2729_method_72_code 6 = .ok (.ifnull 18, 3) := by decide +kernel
theorem d11_24 : decode jdk_2729_method_72_code 24 = .ok (.aload_n 1, 1) := by decide +kernel
theorem d11_25 : decode jdk_2729_method_72_code 25 = .ok (.areturn, 1) := by decide +kernel
theorem d12_0 : decode jdk_2750_method_1_code 0 = .ok (.aload_n 0, 1) := by decide +kernel
theorem d12_1 : decode jdk_2750_method_1_code 1 = .ok (.aload_n 1, 1) := by decide +kernel
theorem d12_2 : decode jdk_2750_method_1_code 2 = .ok (.putfield 1, 3) := by decide +kernel
theorem d12_5 : decode jdk_2750_method_1_code 5 = .ok (.aload_n 0, 1) := by decide +kernel
theorem d12_6 : decode jdk_2750_method_1_code 6 = .ok (.invokespecial 7, 3) := by decide +kernel
theorem d12_9 : decode jdk_2750_method_1_code 9 = .ok (.aload_n 0, 1) := by decide +kernel
theorem d12_10 : decode jdk_2750_method_1_code 10 = .ok (.aload_n 1, 1) := by decide +kernel
theorem d12_11 : decode jdk_2750_method_1_code 11 = .ok (.getfield 13, 3) := by decide +kernel
theorem d12_14 : decode jdk_2750_method_1_code 14 = .ok (.putfield 19, 3) := by decide +kernel
theorem d12_17 : decode jdk_2750_method_1_code 17 = .ok (.aload_n 0, 1) := by decide +kernel
theorem d12_18 : decode jdk_2750_method_1_code 18 = .ok (.aconst_null, 1) := by decide +kernel
theorem d12_19 : decode jdk_2750_method_1_code 19 = .ok (.putfield 22, 3) := by decide +kernel
theorem d12_22 : decode jdk_2750_method_1_code 22 = .ok (.aload_n 0, 1) := by decide +kernel
theorem d12_23 : decode jdk_2750_method_1_code 23 = .ok (.aload_n 2, 1) := by decide +kernel
theorem d12_24 : decode jdk_2750_method_1_code 24 = .ok (.putfield 26, 3) := by decide +kernel
theorem d12_27 : decode jdk_2750_method_1_code 27 = .ok (.return_, 1) := by decide +kernel
theorem pn_8 : plainName "java/util/TreeMap$PrivateEntryIterator" = true := by first | (simp [plainName, overriddenIn]; done) | decide +kernel
theorem d13_0 : decode jdk_2737_method_1_code 0 = .ok (.aload_n 0, 1) := by decide +kernel
theorem d13_1 : decode jdk_2737_method_1_code 1 = .ok (.aload_n 1, 1) := by decide +kernel
theorem d13_2 : decode jdk_2737_method_1_code 2 = .ok (.aload_n 2, 1) := by decide +kernel
theorem pd_5 : parseMethodDescriptor "(Ljava/util/TreeMap;Ljava/util/TreeMap$Entry;)V" = some ⟨[(.object "java/util/TreeMap"), (.object "java/util/TreeMap$Entry")], none⟩ := by decide +kernel
theorem d13_3 : decode jdk_2737_method_1_code 3 = .ok (.invokespecial 1, 3) := by decide +kernel
theorem d13_6 : decode jdk_2737_method_1_code 6 = .ok (.return_, 1) := by decide +kernel
theorem pn_9 : plainName "java/util/TreeMap$EntryIterator" = true := by first | (simp [plainName, overriddenIn]; done) | decide +kernel
theorem d14_0 : decode jdk_2738_method_2_code 0 = .ok (.new 13, 3) := by decide +kernel
theorem d14_3 : decode jdk_2738_method_2_code 3 = .ok (.dup, 1) := by decide +kernel
theorem d14_4 : decode jdk_2738_method_2_code 4 = .ok (.aload_n 0, 1) := by decide +kernel
theorem d14_5 : decode jdk_2738_method_2_code 5 = .ok (.getfield 1, 3) := by decide +kernel
theorem d14_8 : decode jdk_2738_method_2_code 8 = .ok (.aload_n 0, 1) := by decide +kernel
theorem d14_9 : decode jdk_2738_method_2_code 9 = .ok (.getfield 1, 3) := by decide +kernel
theorem pd_6 : parseMethodDescriptor "()Ljava/util/TreeMap$Entry;" = some ⟨[], some (.object "java/util/TreeMap$Entry")⟩ := by decide +kernel
theorem d14_12 : decode jdk_2738_method_2_code 12 = .ok (.invokevirtual 15, 3) := by decide +kernel
theorem d14_15 : decode jdk_2738_method_2_code 15 = .ok (.invokespecial 21, 3) := by decide +kernel
theorem d14_18 : decode jdk_2738_method_2_code 18 = .ok (.areturn, 1) := by decide +kernel
theorem d15_0 : decode jdk_2750_method_2_code 0 = .ok (.aload_n 0, 1) := by decide +kernel
theorem d15_1 : decode jdk_2750_method_2_code 1 = .ok (.getfield 26, 3) := by decide +kernel
theorem d15_4 : decode jdk_2750_method_2_code 4 = .ok (.ifnull 7, 3) := by decide +kernel
theorem d15_11 : decode jdk_2750_method_2_code 11 = .ok (.iconst 0, 1) := by decide +kernel
theorem d15_12 : decode jdk_2750_method_2_code 12 = .ok (.ireturn, 1) := by decide +kernel
theorem d16_0 : decode jdk_72_method_16_code 0 = .ok (.aload_n 1, 1) := by decide +kernel
theorem pd_7 : parseMethodDescriptor "(Ljava/lang/Object;)Ljava/lang/Object;" = some ⟨[(.object "java/lang/Object")], some (.object "java/lang/Object")⟩ := by decide +kernel
theorem d16_1 : decode jdk_72_method_16_code 1 = .ok (.invokestatic 11, 3) := by decide +kernel
theorem d16_4 : decode jdk_72_method_16_code 4 = .ok (.pop, 1) := by decide +kernel
theorem d16_5 : decode jdk_72_method_16_code 5 = .ok (.aload_n 0, 1) := by decide +kernel
theorem d16_6 : decode jdk_72_method_16_code 6 = .ok (.invokeinterface 16 1, 5) := by decide +kernel
theorem pd_8 : parseMethodDescriptor "()Ljava/util/Iterator;" = some ⟨[], some (.object "java/util/Iterator")⟩ := by decide +kernel
theorem d16_11 : decode jdk_72_method_16_code 11 = .ok (.invokeinterface 20 1, 5) := by decide +kernel
theorem d16_16 : decode jdk_72_method_16_code 16 = .ok (.astore_n 2, 1) := by decide +kernel
theorem d16_17 : decode jdk_72_method_16_code 17 = .ok (.aload_n 2, 1) := by decide +kernel
theorem pd_9 : parseMethodDescriptor "()Z" = some ⟨[], some .boolean⟩ := by decide +kernel
theorem d16_18 : decode jdk_72_method_16_code 18 = .ok (.invokeinterface 26 1, 5) := by decide +kernel
theorem d16_23 : decode jdk_72_method_16_code 23 = .ok (.ifCond .eq 57, 3) := by decide +kernel
theorem d16_80 : decode jdk_72_method_16_code 80 = .ok (.return_, 1) := by decide +kernel
theorem d17_0 : decode jdk_79_method_36_code 0 = .ok (.aload_n 0, 1) := by decide +kernel
theorem d17_1 : decode jdk_79_method_36_code 1 = .ok (.invokeinterface 220 1, 5) := by decide +kernel
theorem d17_6 : decode jdk_79_method_36_code 6 = .ok (.ldc 223, 2) := by decide +kernel
theorem d17_8 : decode jdk_79_method_36_code 8 = .ok (.if_acmp .ne 5, 3) := by decide +kernel
theorem d17_11 : decode jdk_79_method_36_code 11 = .ok (.aload_n 0, 1) := by decide +kernel
theorem d17_12 : decode jdk_79_method_36_code 12 = .ok (.areturn, 1) := by decide +kernel
theorem d17_13 : decode jdk_79_method_36_code 13 = .ok (.new 223, 3) := by decide +kernel
theorem d17_16 : decode jdk_79_method_36_code 16 = .ok (.dup, 1) := by decide +kernel
theorem d17_17 : decode jdk_79_method_36_code 17 = .ok (.aload_n 0, 1) := by decide +kernel
theorem d17_18 : decode jdk_79_method_36_code 18 = .ok (.invokespecial 225, 3) := by decide +kernel
theorem d17_21 : decode jdk_79_method_36_code 21 = .ok (.areturn, 1) := by decide +kernel
theorem pn_10 : plainName "java/util/Collections" = true := by first | (simp [plainName, overriddenIn]; done) | decide +kernel
theorem d18_0 : decode prog_58_method_3_code 0 = .ok (.new 1, 3) := by decide +kernel
theorem d18_3 : decode prog_58_method_3_code 3 = .ok (.dup, 1) := by decide +kernel
theorem d18_4 : decode prog_58_method_3_code 4 = .ok (.getstatic 3, 3) := by decide +kernel
theorem d18_7 : decode prog_58_method_3_code 7 = .ok (.invokespecial 9, 3) := by decide +kernel
theorem d18_10 : decode prog_58_method_3_code 10 = .ok (.astore_n 1, 1) := by decide +kernel
theorem d18_11 : decode prog_58_method_3_code 11 = .ok (.aload_n 0, 1) := by decide +kernel
theorem d18_12 : decode prog_58_method_3_code 12 = .ok (.aload_n 1, 1) := by decide +kernel
theorem d18_13 : decode prog_58_method_3_code 13 = .ok (.invokedynamic 27, 5) := by decide +kernel
theorem pn_11 : plainName "java/util/Map" = true := by first | (simp [plainName, overriddenIn]; done) | decide +kernel
theorem pd_10 : parseMethodDescriptor "(Ljava/util/function/BiConsumer;)V" = some ⟨[(.object "java/util/function/BiConsumer")], none⟩ := by decide +kernel
theorem d18_18 : decode prog_58_method_3_code 18 = .ok (.invokevirtual 31, 3) := by decide +kernel
theorem d18_21 : decode prog_58_method_3_code 21 = .ok (.new 14, 3) := by decide +kernel
theorem d18_24 : decode prog_58_method_3_code 24 = .ok (.dup, 1) := by decide +kernel
theorem d18_25 : decode prog_58_method_3_code 25 = .ok (.aload_n 1, 1) := by decide +kernel
theorem pd_11 : parseMethodDescriptor "(Ljava/util/Map;)Ljava/util/Map;" = some ⟨[(.object "java/util/Map")], some (.object "java/util/Map")⟩ := by decide +kernel
theorem d18_26 : decode prog_58_method_3_code 26 = .ok (.invokestatic 35, 3) := by decide +kernel
theorem d18_29 : decode prog_58_method_3_code 29 = .ok (.invokespecial 13, 3) := by decide +kernel
theorem d18_32 : decode prog_58_method_3_code 32 = .ok (.areturn, 1) := by decide +kernel
theorem d19_0 : decode prog_56_method_4_code 0 = .ok (.aload_n 0, 1) := by decide +kernel
theorem d19_1 : decode prog_56_method_4_code 1 = .ok (.invokespecial 7, 3) := by decide +kernel
theorem d19_4 : decode prog_56_method_4_code 4 = .ok (.aload_n 0, 1) := by decide +kernel
theorem d19_5 : decode prog_56_method_4_code 5 = .ok (.aload_n 1, 1) := by decide +kernel
theorem d19_6 : decode prog_56_method_4_code 6 = .ok (.putfield 12, 3) := by decide +kernel
theorem d19_9 : decode prog_56_method_4_code 9 = .ok (.aload_n 0, 1) := by decide +kernel
theorem d19_10 : decode prog_56_method_4_code 10 = .ok (.aload_n 2, 1) := by decide +kernel
theorem d19_11 : decode prog_56_method_4_code 11 = .ok (.ifnonnull 13, 3) := by decide +kernel
theorem d19_14 : decode prog_56_method_4_code 14 = .ok (.new 16, 3) := by decide +kernel
theorem d19_17 : decode prog_56_method_4_code 17 = .ok (.dup, 1) := by decide +kernel
theorem d19_18 : decode prog_56_method_4_code 18 = .ok (.invokespecial 18, 3) := by decide +kernel
theorem d19_21 : decode prog_56_method_4_code 21 = .ok (.goto 4, 3) := by decide +kernel
theorem pd_12 : parseMethodDescriptor "(Lcom/example/gate_to_handlers/gatetohandlers/HttpHeaders;)Lcom/example/gate_to_handlers/gatetohandlers/HttpHeaders;" = some ⟨[(.object "com/example/gate_to_handlers/gatetohandlers/HttpHeaders")], some (.object "com/example/gate_to_handlers/gatetohandlers/HttpHeaders")⟩ := by decide +kernel
theorem d19_25 : decode prog_56_method_4_code 25 = .ok (.invokestatic 19, 3) := by decide +kernel
theorem d19_28 : decode prog_56_method_4_code 28 = .ok (.putfield 23, 3) := by decide +kernel
theorem d19_31 : decode prog_56_method_4_code 31 = .ok (.return_, 1) := by decide +kernel
theorem pn_12 : plainName "com/example/gate_to_handlers/gatetohandlers/HttpEntity" = true := by first | (simp [plainName, overriddenIn]; done) | decide +kernel
theorem d19_24 : decode prog_56_method_4_code 24 = .ok (.aload_n 2, 1) := by decide +kernel
theorem d20_0 : decode prog_56_method_1_code 0 = .ok (.aload_n 0, 1) := by decide +kernel
theorem d20_1 : decode prog_56_method_1_code 1 = .ok (.aconst_null, 1) := by decide +kernel
theorem d20_2 : decode prog_56_method_1_code 2 = .ok (.aconst_null, 1) := by decide +kernel
theorem pd_13 : parseMethodDescriptor "(Ljava/lang/Object;Lcom/example/gate_to_handlers/gatetohandlers/HttpHeaders;)V" = some ⟨[(.object "java/lang/Object"), (.object "com/example/gate_to_handlers/gatetohandlers/HttpHeaders")], none⟩ := by decide +kernel
theorem d20_3 : decode prog_56_method_1_code 3 = .ok (.invokespecial 1, 3) := by decide +kernel
theorem d20_6 : decode prog_56_method_1_code 6 = .ok (.return_, 1) := by decide +kernel
theorem d21_0 : decode prog_56_method_2_code 0 = .ok (.aload_n 0, 1) := by decide +kernel
theorem d21_1 : decode prog_56_method_2_code 1 = .ok (.aload_n 1, 1) := by decide +kernel
theorem d21_2 : decode prog_56_method_2_code 2 = .ok (.aconst_null, 1) := by decide +kernel
theorem d21_3 : decode prog_56_method_2_code 3 = .ok (.invokespecial 1, 3) := by decide +kernel
theorem d21_6 : decode prog_56_method_2_code 6 = .ok (.return_, 1) := by decide +kernel
theorem d22_0 : decode prog_56_method_3_code 0 = .ok (.aload_n 0, 1) := by decide +kernel
theorem d22_1 : decode prog_56_method_3_code 1 = .ok (.aconst_null, 1) := by decide +kernel
theorem d22_2 : decode prog_56_method_3_code 2 = .ok (.aload_n 1, 1) := by decide +kernel
theorem d22_3 : decode prog_56_method_3_code 3 = .ok (.invokespecial 1, 3) := by decide +kernel
theorem d22_6 : decode prog_56_method_3_code 6 = .ok (.return_, 1) := by decide +kernel
theorem d23_0 : decode prog_56_method_7_code 0 = .ok (.aload_n 0, 1) := by decide +kernel
theorem d23_1 : decode prog_56_method_7_code 1 = .ok (.getfield 12, 3) := by decide +kernel
theorem d23_4 : decode prog_56_method_7_code 4 = .ok (.ifnull 7, 3) := by decide +kernel
theorem d23_11 : decode prog_56_method_7_code 11 = .ok (.iconst 0, 1) := by decide +kernel
theorem d23_12 : decode prog_56_method_7_code 12 = .ok (.ireturn, 1) := by decide +kernel
theorem d23_7 : decode prog_56_method_7_code 7 = .ok (.iconst 1, 1) := by decide +kernel
theorem d23_8 : decode prog_56_method_7_code 8 = .ok (.goto 4, 3) := by decide +kernel
theorem d24_0 : decode prog_56_method_6_code 0 = .ok (.aload_n 0, 1) := by decide +kernel
theorem d24_1 : decode prog_56_method_6_code 1 = .ok (.getfield 12, 3) := by decide +kernel
theorem d24_4 : decode prog_56_method_6_code 4 = .ok (.areturn, 1) := by decide +kernel
theorem d25_0 : decode jdk_42_method_149_code 0 = .ok (.aload_n 0, 1) := by decide +kernel
theorem d25_1 : decode jdk_42_method_149_code 1 = .ok (.invokespecial 1, 3) := by decide +kernel
theorem d25_4 : decode jdk_42_method_149_code 4 = .ok (.iload_n 3, 1) := by decide +kernel
theorem d25_5 : decode jdk_42_method_149_code 5 = .ok (.ifCond .ne 22, 3) := by decide +kernel
theorem d25_8 : decode jdk_42_method_149_code 8 = .ok (.aload_n 0, 1) := by decide +kernel
theorem d25_9 : decode jdk_42_method_149_code 9 = .ok (.ldc 7, 2) := by decide +kernel
theorem d25_11 : decode jdk_42_method_149_code 11 = .ok (.getfield 9, 3) := by decide +kernel
theorem d25_14 : decode jdk_42_method_149_code 14 = .ok (.putfield 9, 3) := by decide +kernel
theorem d25_17 : decode jdk_42_method_149_code 17 = .ok (.aload_n 0, 1) := by decide +kernel
theorem d25_18 : decode jdk_42_method_149_code 18 = .ok (.ldc 7, 2) := by decide +kernel
theorem d25_20 : decode jdk_42_method_149_code 20 = .ok (.getfield 15, 3) := by decide +kernel
theorem d25_23 : decode jdk_42_method_149_code 23 = .ok (.putfield 15, 3) := by decide +kernel
theorem d25_26 : decode jdk_42_method_149_code 26 = .ok (.return_, 1) := by decide +kernel
theorem pn_13 : plainName "java/lang/String" = true := by first | (simp [plainName, overriddenIn]; done) | decide +kernel
theorem d26_0 : decode jdk_42_method_3_code 0 = .ok (.aload_n 0, 1) := by decide +kernel
theorem d26_1 : decode jdk_42_method_3_code 1 = .ok (.aload_n 1, 1) := by decide +kernel
theorem d26_2 : decode jdk_42_method_3_code 2 = .ok (.iconst 0, 1) := by decide +kernel
theorem d26_3 : decode jdk_42_method_3_code 3 = .ok (.aload_n 1, 1) := by decide +kernel
theorem d26_4 : decode jdk_42_method_3_code 4 = .ok (.arraylength, 1) := by decide +kernel
theorem d26_5 : decode jdk_42_method_3_code 5 = .ok (.aconst_null, 1) := by decide +kernel
theorem pd_14 : parseMethodDescriptor "([CIILjava/lang/Void;)V" = some ⟨[(.array .char), .int, .int, (.object "java/lang/Void")], none⟩ := by decide +kernel
theorem d26_6 : decode jdk_42_method_3_code 6 = .ok (.invokespecial 27, 3) := by decide +kernel
theorem d26_9 : decode jdk_42_method_3_code 9 = .ok (.return_, 1) := by decide +kernel
theorem pd_15 : parseMethodDescriptor "()Ljava/lang/Object;" = some ⟨[], some (.object "java/lang/Object")⟩ := by decide +kernel
theorem pd_16 : parseMethodDescriptor "(Ljava/lang/Object;)V" = some ⟨[(.object "java/lang/Object")], none⟩ := by decide +kernel
theorem pd_17 : parseMethodDescriptor "(Lcom/example/gate_to_handlers/gatetohandlers/HttpHeaders;)V" = some ⟨[(.object "com/example/gate_to_handlers/gatetohandlers/HttpHeaders")], none⟩ := by decide +kernel
theorem pd_18 : parseMethodDescriptor "([C)V" = some ⟨[(.array .char)], none⟩ := by decide +kernel
theorem pn_14 : plainName "com/example/gate_to_handlers/gatetohandlers/HttpEntityHasBodyPinLaw" = true := by first | (simp [plainName, overriddenIn]; done) | decide +kernel
abbrev EL : List (String × Nat) := [("java/lang/String", 7)]
theorem elA {Z : State} {a0 : Array Value} (H : Ev Z a0) : EW Z a0 EL := (EW.cons (H.1 _ (List.mem_of_getElem? (i := 14) rfl)) (by decide) EW.nil)
theorem strsA {Z : State} {a0 : Array Value} (H : Ev Z a0) : ∀ d ∈ Bundle.stringAtoms, d.before a0 Z = true := fun d hd => H.1 d ((by decide +kernel : ∀ d ∈ Bundle.stringAtoms, d ∈ tables_1) d hd)
/-! Strings of chars 0 to 255 -/
def StrA (Z : State) (h : Heap) (x : Addr) (cs : List Int32) : Prop := Exa Z h x "java/lang/String" ∧ Fld Z h x "java/lang/String" "coder" "B" (.int 0) ∧ (∃ (t : Addr) (kb : ClassId), Fld Z h x "java/lang/String" "value" "[B" (.ref t) ∧ Arv Z h t kb .byte (Int32.ofNat cs.length) ((cs.map fun c => c.toInt8.toInt32).map Value.int) (.int 0)) ∧ (∀ c ∈ cs, ¬ c < 0 ∧ ¬ (255 : Int32) < c) ∧ cs.length ≤ 4000
theorem StrA.ext {Z : State} {h h' : Heap} {x : Addr} {cs : List Int32} (F : StrA Z h x cs) (E : Ext h h') : StrA Z h' x cs := by
  obtain ⟨h1, h2, ⟨t, kb, h3, h4⟩, h5⟩ := F
  exact ⟨h1.ext E, h2.ext E, ⟨t, kb, h3.ext E, h4.ext E⟩, h5⟩
theorem StrA.keepO {Z : State} {h h' : Heap} {x a : Addr} {cs : List Int32} {C : String} {q : Nat} {a0 : Array Value} (F : StrA Z h x cs) (K : Keep h h' [a]) (E : Exa Z h a C) (hC : C ≠ "java/lang/String") (wi : (Cond.instantiable C q).before a0 Z = true) : StrA Z h' x cs := by
  obtain ⟨h1, h2, ⟨t, kb, h3, h4⟩, h5⟩ := F
  have n1 : x ∉ [a] := ninS (fun e => ne_exa E h1 hC e.symm) nin0
  have n2 : t ∉ [a] := ninS (Ne.symm (Exa.neArv E h4 wi)) nin0
  exact ⟨h1.keep K, h2.keep K n1, ⟨t, kb, h3.keep K n1, h4.keep K n2⟩, h5⟩
theorem StrA.lt {Z : State} {h : Heap} {x : Addr} {cs : List Int32} (F : StrA Z h x cs) : x < h.size := F.1.lt
theorem lo8_inj {x y : Int32} (hx : ¬ x < 0 ∧ ¬ (255 : Int32) < x) (hy : ¬ y < 0 ∧ ¬ (255 : Int32) < y) (h : x.toInt8.toInt32 = y.toInt8.toInt32) : x = y := by
  have a := c_i2b x; have b := c_i2b y; have e : (255 : Int32).toInt = 255 := rfl; have e0 : (0 : Int32).toInt = 0 := rfl
  simp only [Int32.lt_iff_toInt_lt] at hx hy
  rw [h] at a
  exact i32e (by omega)
theorem map_inj8 : ∀ (cs ds : List Int32), (∀ c ∈ cs, ¬ c < 0 ∧ ¬ (255 : Int32) < c) → (∀ c ∈ ds, ¬ c < 0 ∧ ¬ (255 : Int32) < c) → (cs.map fun c => c.toInt8.toInt32) = (ds.map fun c => c.toInt8.toInt32) → cs = ds
  | [], [], _, _, _ => rfl
  | [], _ :: _, _, _, h => by simp at h
  | _ :: _, [], _, _, h => by simp at h
  | c :: cs, d :: ds, hc, hd, h => by
    simp only [List.map_cons, List.cons.injEq] at h
    rw [lo8_inj (hc c (List.mem_cons_self ..)) (hd d (List.mem_cons_self ..)) h.1, map_inj8 cs ds (fun x hx => hc x (List.mem_cons_of_mem _ hx)) (fun x hx => hd x (List.mem_cons_of_mem _ hx)) h.2]
theorem n32' {n : Nat} (h : n ≤ 4000) : (Int32.ofNat n).toNatClampNeg = n := by
  have q : n.toInt32.toInt = n := len_toInt (by omega)
  show (Int32.ofNat n).toInt.toNat = n
  have r : (Int32.ofNat n).toInt = n := q
  rw [r]; rfl
theorem StrA.inj {Z : State} {h : Heap} {x : Addr} {cs ds : List Int32} (F : StrA Z h x cs) (G : StrA Z h x ds) : cs = ds := by
  obtain ⟨-, -, ⟨t, kb, h3, c, A, -, S, -, H, -⟩, h5, h6⟩ := F
  obtain ⟨-, -, ⟨t', kb', g3, c', A', -, S', -, H', -⟩, g5, g6⟩ := G
  have et : t = t' := by
    apply Decidable.byContradiction; intro q
    exact Fld.ne h3 g3 (fun e => q (by injection e)) rfl
  subst et
  cases A.1.symm.trans A'.1
  rw [n32' h6] at S; rw [n32' g6] at S'
  have el : cs.length = ds.length := S.symm.trans S'
  apply map_inj8 cs ds h5 g5
  apply List.ext_getElem (by simp [el])
  intro i hi hi'
  simp only [List.length_map] at hi hi'
  have a := H i (by omega); have b := H' i (by omega)
  rw [a] at b
  simpa [List.getD_eq_getElem?_getD, hi, hi'] using b
section StrPay
variable {l : Launch} {R : Room} {p : Program} {e : Env} {below : List Frame} {s : State} {args : Array Value} {Z : State} {a0 : Array Value} {h : Heap} {n0 Wd : Nat} {vm0 : Vm}
theorem payStr (H : Ev Z a0) {x b : Addr} {kC : ClassId} {cs : List Int32} {d v0 c0 : Value} {N : Int32} {nn : Nat} (O : Old Z n0 h) (hx0 : n0 ≤ x) (E : Exa Z h x "java/lang/String") (V : Fld Z h x "java/lang/String" "value" "[B" v0) (C : Fld Z h x "java/lang/String" "coder" "B" c0) (K : Arv Z h b kC .char N (cs.map Value.int) d) (hn : cs.length = nn) (hN : N = Int32.ofNat nn) (l0 : 0 < nn) (l2 : nn ≤ 4000)
    (hp : ∀ c ∈ cs, ¬ c < 0 ∧ ¬ (255 : Int32) < c) (hfr : 4 ≤ R.frames) (hlo : Wd + 65 ≤ R.locals) (hZ : Z.Warmed39 (s.setVm vm0).vm) :
    PayN l R p e below (s.setVm vm0) args (⟨"java/lang/String", "<init>", "([C)V"⟩ : MethodName) 3 Wd #[.ref x, .ref b] h 1 nn (fun v h' L => v = none ∧ (Fr n0 L ∧ Keep h h' [x]) ∧ StrA Z h' x cs) := by
  obtain ⟨z, S, hz⟩ := H.2.1
  refine Back.mono (StrChars.Road.backV (bs := cs.map fun c => c.toInt8.toInt32) (n := nn) (n0 := n0) hZ (fun d hd => H.1 d ((by decide +kernel : ∀ d ∈ StrChars.Road.words, d ∈ tables_1) d hd)) (kI := 4) (H.1 _ (by decide +kernel : Jvm.Cond.instantiable "java/lang/String" 4 ∈ tables_1)) hx0 (by rw [← O.1]; exact O.2.1) E V C K (S.ext O.2) hz hn hN l0 l2 hp rfl hfr hlo) (fun P a hp => hp) (fun P a v B hp' hq => ?_)
  obtain ⟨L, ⟨q1, q2, q3, q4, q5, t, kb, -, -, -, q6, q7⟩, r⟩ := hq
  exact ⟨L, ⟨q1, ⟨q2, q3⟩, q4, q5, ⟨t, kb, q6, by rw [hn, ← hN]; exact q7⟩, hp, by omega⟩, r⟩
end StrPay
def sg : Jvm.Lambda.Shape := (Jvm.Lambda.Shape.mk "java/util/function/BiConsumer" "accept" (Jvm.ClassFile.MethodDescriptor.mk ([(Jvm.ClassFile.FieldType.object "java/lang/Object"), (Jvm.ClassFile.FieldType.object "java/lang/Object")] : List Jvm.ClassFile.FieldType) (Option.none : Option Jvm.ClassFile.FieldType)) ([(Jvm.ClassFile.FieldType.object "java/util/Map")] : List Jvm.ClassFile.FieldType) (6 : Nat) "com/example/gate_to_handlers/gatetohandlers/HttpHeaders" "lambda$readOnly$0" (Jvm.ClassFile.MethodDescriptor.mk ([(Jvm.ClassFile.FieldType.object "java/util/Map"), (Jvm.ClassFile.FieldType.object "java/lang/String"), (Jvm.ClassFile.FieldType.object "java/util/List")] : List Jvm.ClassFile.FieldType) (Option.none : Option Jvm.ClassFile.FieldType)) false (Jvm.ClassFile.MethodDescriptor.mk ([(Jvm.ClassFile.FieldType.object "java/lang/String"), (Jvm.ClassFile.FieldType.object "java/util/List")] : List Jvm.ClassFile.FieldType) (Option.none : Option Jvm.ClassFile.FieldType)))
theorem capK : Jvm.LamKit.capOK sg "com/example/gate_to_handlers/gatetohandlers/HttpHeaders" 15 0 = true := by decide +kernel
def TMr (Z : State) (h : Heap) (t : Addr) : Prop := Exa Z h t "java/util/TreeMap" ∧ Fld Z h t "java/util/TreeMap" "root" "Ljava/util/TreeMap$Entry;" .null ∧ Fld Z h t "java/util/TreeMap" "modCount" "I" (.int (0 : Int32))
def TMok (Z : State) (h : Heap) (t : Addr) : Prop := Exa Z h t "java/util/TreeMap" ∧ Fld Z h t "java/util/TreeMap" "root" "Ljava/util/TreeMap$Entry;" .null ∧ Fld Z h t "java/util/TreeMap" "entrySet" "Ljava/util/TreeMap$EntrySet;" .null ∧ Fld Z h t "java/util/TreeMap" "modCount" "I" (.int (0 : Int32))
theorem ef_amap (m : MethodId) (y0 : Addr) : entryFrame m #[(.ref y0)] 1 = mkF m 0 #[vA y0] [] := by first | (simp [entryFrame, mkF, argsToLocals, vI, vA, Value.category, maxLocals]; done) | rfl
def Q_amap (Z : State) (a1 : Addr) (h0 : Heap) (v : Option Value) (h : Heap) : Prop := v = none ∧ h = h0
def rm_amap : Room := { frames := 1, cells := 0, slots := 0, locals := 12 }
set_option maxRecDepth 65536 in
set_option maxHeartbeats 40000000 in
theorem ct_amap {l : Launch} {Z : State} {a0 : Array Value} (H : Ev Z a0) (a1 : Addr) {h0 : Heap} {n0 : Nat} (O0 : Old Z n0 h0) : CtrN l Z (⟨"java/util/AbstractMap", "<init>", "()V"⟩ : MethodName) jdk_71_method_1_code 1 none [] rm_amap #[(.ref a1)] h0 [] n0 (Q_amap Z a1 h0) := by
  refine enterN (a0 := a0) (plainFor_of_name pn_0) O0 all0 ?_
  intro p e s m below meth c T0 hx hby hml hrt hnm hlk A0
  replace A0 : Wk false Z a0 [] n0 h0 [] "java/util/AbstractMap" p l e rm_amap s m #[(.ref a1)] below meth c [] T0 h0 0 0 := A0
  refine Run.st (T0.setTop (mkF m 0 #[vA a1] [])) (fun _ k => castTop (ef_amap m a1) k) ?_
  refine Run.st (T0.setTop (mkF m 1 #[vA a1] [(.ref a1)])) (fun _ k => XS.aloadN A0.here hx rfl (hb hby d0_0) rfl rfl k) ?_
  obtain ⟨T1, A1, st1⟩ := A0.initO hx (tw41 H.1) (tw12 H.1) (tw13 H.1) (g := (mkF m 1 #[vA a1] [(.ref a1)])) rfl (by rw [hml]; rfl) rfl (hb hby d0_1) (by decide) (Wd := 0) (Nat.le_refl _) (by decide)
  refine Run.st (T1.setTop (mkF m 4 #[vA a1] [])) st1 ?_
  exact A1.leaveN hlk none (fun _ => rfl) (by decide) (by decide) ⟨rfl, rfl⟩ (fun X hr => X.returnOut hx hrt (hb hby d0_4) hr)
theorem ef_acol (m : MethodId) (y0 : Addr) : entryFrame m #[(.ref y0)] 1 = mkF m 0 #[vA y0] [] := by first | (simp [entryFrame, mkF, argsToLocals, vI, vA, Value.category, maxLocals]; done) | rfl
def Q_acol (Z : State) (a1 : Addr) (h0 : Heap) (v : Option Value) (h : Heap) : Prop := v = none ∧ h = h0
def rm_acol : Room := { frames := 1, cells := 0, slots := 0, locals := 12 }
set_option maxRecDepth 65536 in
set_option maxHeartbeats 40000000 in
theorem ct_acol {l : Launch} {Z : State} {a0 : Array Value} (H : Ev Z a0) (a1 : Addr) {h0 : Heap} {n0 : Nat} (O0 : Old Z n0 h0) : CtrN l Z (⟨"java/util/AbstractCollection", "<init>", "()V"⟩ : MethodName) jdk_22_method_1_code 1 none [] rm_acol #[(.ref a1)] h0 [] n0 (Q_acol Z a1 h0) := by
  refine enterN (a0 := a0) (plainFor_of_name pn_1) O0 all0 ?_
  intro p e s m below meth c T0 hx hby hml hrt hnm hlk A0
  replace A0 : Wk false Z a0 [] n0 h0 [] "java/util/AbstractCollection" p l e rm_acol s m #[(.ref a1)] below meth c [] T0 h0 0 0 := A0
  refine Run.st (T0.setTop (mkF m 0 #[vA a1] [])) (fun _ k => castTop (ef_acol m a1) k) ?_
  refine Run.st (T0.setTop (mkF m 1 #[vA a1] [(.ref a1)])) (fun _ k => XS.aloadN A0.here hx rfl (hb hby d1_0) rfl rfl k) ?_
  obtain ⟨T2, A2, st2⟩ := A0.initO hx (tw125 H.1) (tw12 H.1) (tw13 H.1) (g := (mkF m 1 #[vA a1] [(.ref a1)])) rfl (by rw [hml]; rfl) rfl (hb hby d1_1) (by decide) (Wd := 0) (Nat.le_refl _) (by decide)
  refine Run.st (T2.setTop (mkF m 4 #[vA a1] [])) st2 ?_
  exact A2.leaveN hlk none (fun _ => rfl) (by decide) (by decide) ⟨rfl, rfl⟩ (fun X hr => X.returnOut hx hrt (hb hby d1_4) hr)
theorem ef_aset (m : MethodId) (y0 : Addr) : entryFrame m #[(.ref y0)] 1 = mkF m 0 #[vA y0] [] := by first | (simp [entryFrame, mkF, argsToLocals, vI, vA, Value.category, maxLocals]; done) | rfl
def Q_aset (Z : State) (a1 : Addr) (h0 : Heap) (v : Option Value) (h : Heap) : Prop := v = none ∧ h = h0
def rm_aset : Room := { frames := 2, cells := 0, slots := 0, locals := 24 }
set_option maxRecDepth 65536 in
set_option maxHeartbeats 40000000 in
theorem ct_aset {l : Launch} {Z : State} {a0 : Array Value} (H : Ev Z a0) (a1 : Addr) {h0 : Heap} {n0 : Nat} (O0 : Old Z n0 h0) : CtrN l Z (⟨"java/util/AbstractSet", "<init>", "()V"⟩ : MethodName) jdk_91_method_1_code 1 none [] rm_aset #[(.ref a1)] h0 [] n0 (Q_aset Z a1 h0) := by
  refine enterN (a0 := a0) (plainFor_of_name pn_2) O0 all0 ?_
  intro p e s m below meth c T0 hx hby hml hrt hnm hlk A0
  replace A0 : Wk false Z a0 [] n0 h0 [] "java/util/AbstractSet" p l e rm_aset s m #[(.ref a1)] below meth c [] T0 h0 0 0 := A0
  refine Run.st (T0.setTop (mkF m 0 #[vA a1] [])) (fun _ k => castTop (ef_aset m a1) k) ?_
  refine Run.st (T0.setTop (mkF m 1 #[vA a1] [(.ref a1)])) (fun _ k => XS.aloadN A0.here hx rfl (hb hby d2_0) rfl rfl k) ?_
  obtain ⟨v3, T3, h3, AA3, K3, ⟨L3, Q3⟩, st3⟩ := A0.callI hx (y := (⟨"java/util/AbstractCollection", "<init>", "()V"⟩ : MethodName)) rfl (tw119 H.1) (tw120 H.1) (tw124 H.1) (by decide) (g := (mkF m 1 #[vA a1] [(.ref a1)])) rfl (by rw [hml]; rfl) a1 [] [] (lenOf pd_0 rfl) rfl (Wd := 0) (Nat.le_refl _) (hb hby d2_1) (by decide) (by decide) [] (fun _ _ _ q => q.2) all0 (fun vm0 hZ => payN (ct_acol H a1 A0.old) (tw124 H.1) (tw123 H.1) (by decide) (by decide) hZ)
  obtain ⟨Q3, N3, -⟩ := Q3
  obtain ⟨rfl, q3⟩ := Q3
  have q3 := q3.symm
  subst q3
  have A3 := AA3 [] all0
  refine Run.st (T3.setTop (mkF m 4 #[vA a1] [])) st3 ?_
  exact A3.leaveN hlk none (fun _ => rfl) (by decide) (by decide) ⟨rfl, rfl⟩ (fun X hr => X.returnOut hx hrt (hb hby d2_4) hr)
theorem ef_rnn (m : MethodId) (y0 : Addr) : entryFrame m #[(.ref y0)] 1 = mkF m 0 #[vA y0] [] := by first | (simp [entryFrame, mkF, argsToLocals, vI, vA, Value.category, maxLocals]; done) | rfl
def Q_rnn (Z : State) (a1 : Addr) (h0 : Heap) (v : Option Value) (h : Heap) : Prop := v = some (.ref a1) ∧ h = h0
def rm_rnn : Room := { frames := 0, cells := 0, slots := 0, locals := 0 }
set_option maxRecDepth 65536 in
set_option maxHeartbeats 40000000 in
theorem ct_rnn {l : Launch} {Z : State} {a0 : Array Value} (H : Ev Z a0) (a1 : Addr) {h0 : Heap} {n0 : Nat} (O0 : Old Z n0 h0) : CtrN l Z (⟨"java/util/Objects", "requireNonNull", "(Ljava/lang/Object;)Ljava/lang/Object;"⟩ : MethodName) jdk_31_method_10_code 1 (some (.object "java/lang/Object")) [] rm_rnn #[(.ref a1)] h0 [] n0 (Q_rnn Z a1 h0) := by
  refine enterN (a0 := a0) (plainFor_of_name pn_3) O0 all0 ?_
  intro p e s m below meth c T0 hx hby hml hrt hnm hlk A0
  replace A0 : Wk false Z a0 [] n0 h0 [] "java/util/Objects" p l e rm_rnn s m #[(.ref a1)] below meth c [] T0 h0 0 0 := A0
  refine Run.st (T0.setTop (mkF m 0 #[vA a1] [])) (fun _ k => castTop (ef_rnn m a1) k) ?_
  refine Run.st (T0.setTop (mkF m 13 #[vA a1] [(.ref a1)])) (fun _ k => XS.aloadN A0.here hx rfl (hb hby d3_0) rfl rfl (XS.ifnonnullYes A0.here hx rfl (pc0 := 1) (pc' := 12) rfl (hb hby d3_1) rfl (by decide) (by decide) (XS.aloadN A0.here hx rfl (hb hby d3_12) rfl rfl k))) ?_
  exact A0.leaveN hlk (some (.ref a1)) (fun q => by rw [hrt] at q; cases q) (by decide) (by decide) ⟨rfl, rfl⟩ (fun X hr => retOut X hx (w := (.ref a1)) (t := (.object "java/lang/Object")) hrt rfl (Or.inr (Or.inr (Or.inr (Or.inr ⟨rfl, rfl, rfl⟩)))) (hb hby d3_13) hr)
theorem ef_tmi (m : MethodId) (y0 : Addr) (y1 : Value) (c_y1 : y1.category = 1) : entryFrame m #[(.ref y0), y1] 2 = mkF m 0 #[vA y0, .val y1] [] := by first | (simp [entryFrame, mkF, argsToLocals, vI, vA, cat_r, cat_i, cat_l, cat_n, maxLocals, c_y1]; done) | rfl
def Q_tmi (Z : State) (a1 : Addr) (w1 : Value) (u_size : Value) (u_modCount : Value) (u_comparator : Value) (h0 : Heap) (v : Option Value) (h : Heap) : Prop := v = none ∧ TMok Z h a1
def rm_tmi : Room := { frames := 2, cells := 0, slots := 0, locals := 24 }
set_option maxRecDepth 65536 in
set_option maxHeartbeats 40000000 in
theorem ct_tmi {l : Launch} {Z : State} {a0 : Array Value} (H : Ev Z a0) (a1 : Addr) (w1 : Value) (u_size : Value) (u_modCount : Value) (u_comparator : Value) {h0 : Heap} {n0 : Nat} (O0 : Old Z n0 h0) (E_a1 : Exa Z h0 a1 "java/util/TreeMap") (g_a1 : n0 ≤ a1) (z_a1 : a1 < h0.size) (Fr : Fld Z h0 a1 "java/util/TreeMap" "root" "Ljava/util/TreeMap$Entry;" .null) (Fe : Fld Z h0 a1 "java/util/TreeMap" "entrySet" "Ljava/util/TreeMap$EntrySet;" .null) (F_size : Fld Z h0 a1 "java/util/TreeMap" "size" "I" u_size) (F_modCount : Fld Z h0 a1 "java/util/TreeMap" "modCount" "I" u_modCount) (F_comparator : Fld Z h0 a1 "java/util/TreeMap" "comparator" "Ljava/util/Comparator;" u_comparator) (r1 : w1.isRef = true) : CtrN l Z (⟨"java/util/TreeMap", "<init>", "(Ljava/util/Comparator;)V"⟩ : MethodName) jdk_2729_method_2_code 2 none [] rm_tmi #[(.ref a1), w1] h0 [a1] n0 (Q_tmi Z a1 w1 u_size u_modCount u_comparator h0) := by
  refine enterN (a0 := a0) (plainFor_of_name pn_4) O0 (allS ⟨g_a1, z_a1⟩ all0) ?_
  intro p e s m below meth c T0 hx hby hml hrt hnm hlk A0
  replace A0 : Wk false Z a0 [] n0 h0 [a1] "java/util/TreeMap" p l e rm_tmi s m #[(.ref a1), w1] below meth c [a1] T0 h0 0 0 := A0
  refine Run.st (T0.setTop (mkF m 0 #[vA a1, .val w1] [])) (fun _ k => castTop (ef_tmi m a1 w1 (catR r1)) k) ?_
  refine Run.st (T0.setTop (mkF m 1 #[vA a1, .val w1] [(.ref a1)])) (fun _ k => XS.aloadN A0.here hx rfl (hb hby d4_0) rfl rfl k) ?_
  obtain ⟨v4, T4, h4, AA4, K4, ⟨L4, Q4⟩, st4⟩ := A0.callI hx (y := (⟨"java/util/AbstractMap", "<init>", "()V"⟩ : MethodName)) rfl (tw35 H.1) (tw36 H.1) (tw40 H.1) (by decide) (g := (mkF m 1 #[vA a1, .val w1] [(.ref a1)])) rfl (by rw [hml]; rfl) a1 [] [] (lenOf pd_0 rfl) rfl (Wd := 0) (Nat.le_refl _) (hb hby d4_1) (by decide) (by decide) [] (fun _ _ _ q => q.2) all0 (fun vm0 hZ => payN (ct_amap H a1 A0.old) (tw40 H.1) (tw39 H.1) (by decide) (by decide) hZ)
  obtain ⟨Q4, N4, -⟩ := Q4
  obtain ⟨rfl, q4⟩ := Q4
  have q4 := q4.symm
  subst q4
  have A4 := AA4 [] all0
  refine Run.st (T4.setTop (mkF m 4 #[vA a1, .val w1] [])) st4 ?_
  refine Run.st (T4.setTop (mkF m 6 #[vA a1, .val w1] [.int 0, (.ref a1)])) (fun _ k => XS.aloadN A4.here hx rfl (hb hby d4_4) rfl rfl (XS.iconst A4.here hx rfl (hb hby d4_5) k)) ?_
  obtain ⟨T5, h5, A5, K5, W5, st5⟩ := A4.putF hx (tw42 H.1) Via.refl (a := a1) (List.mem_of_getElem? (i := 0) rfl) (v' := (.int (0 : Int32))) F_size E_a1 (Or.inl (tw43 H.1)) (tw29 H.1) (ty := .int) (by decide) rfl rfl (g := (mkF m 6 #[vA a1, .val w1] [.int 0, (.ref a1)])) rfl rfl (hb hby d4_6)
  have F5 : Fld Z h5 a1 "java/util/TreeMap" "size" "I" (.int (0 : Int32)) := F_size.same W5
  refine Run.st (T5.setTop (mkF m 9 #[vA a1, .val w1] [])) st5 ?_
  refine Run.st (T5.setTop (mkF m 11 #[vA a1, .val w1] [.int 0, (.ref a1)])) (fun _ k => XS.aloadN A5.here hx rfl (hb hby d4_9) rfl rfl (XS.iconst A5.here hx rfl (hb hby d4_10) k)) ?_
  have f7 := (F_modCount.other W5 (Or.inr (slot_ne (Or.inl (tw45 H.1)) (Or.inl (tw43 H.1)) (by decide) (t := .int) (t' := .int) (by decide) (by decide))))
  have f8 := (E_a1.wr W5)
  obtain ⟨T6, h6, A6, K6, W6, st6⟩ := A5.putF hx (tw44 H.1) Via.refl (a := a1) (List.mem_of_getElem? (i := 0) rfl) (v' := (.int (0 : Int32))) f7 f8 (Or.inl (tw45 H.1)) (tw29 H.1) (ty := .int) (by decide) rfl rfl (g := (mkF m 11 #[vA a1, .val w1] [.int 0, (.ref a1)])) rfl rfl (hb hby d4_11)
  have F6 : Fld Z h6 a1 "java/util/TreeMap" "modCount" "I" (.int (0 : Int32)) := f7.same W6
  refine Run.st (T6.setTop (mkF m 14 #[vA a1, .val w1] [])) st6 ?_
  refine Run.st (T6.setTop (mkF m 16 #[vA a1, .val w1] [w1, (.ref a1)])) (fun _ k => XS.aloadN A6.here hx rfl (hb hby d4_14) rfl rfl (XS.aloadN A6.here hx rfl (hb hby d4_15) rfl r1 k)) ?_
  have f10 := ((F_comparator.other W5 (Or.inr (slot_ne (Or.inr (tw47 H.1)) (Or.inl (tw43 H.1)) (by decide) (t := (.object "java/util/Comparator")) (t' := .int) (by decide) (by decide)))).other W6 (Or.inr (slot_ne (Or.inr (tw47 H.1)) (Or.inl (tw45 H.1)) (by decide) (t := (.object "java/util/Comparator")) (t' := .int) (by decide) (by decide))))
  have f11 := ((E_a1.wr W5).wr W6)
  obtain ⟨T9, h9, A9, K9, W9, st9⟩ := A6.putF hx (tw46 H.1) Via.refl (a := a1) (List.mem_of_getElem? (i := 0) rfl) (v' := w1) f10 f11 (Or.inr ⟨(tw47 H.1), rfl, hnm⟩) (tw29 H.1) (ty := (.object "java/util/Comparator")) (by decide) (narR r1 rfl) (fitR r1 rfl) (g := (mkF m 16 #[vA a1, .val w1] [w1, (.ref a1)])) rfl rfl (hb hby d4_16)
  have F9 : Fld Z h9 a1 "java/util/TreeMap" "comparator" "Ljava/util/Comparator;" w1 := f10.same W9
  refine Run.st (T9.setTop (mkF m 19 #[vA a1, .val w1] [])) st9 ?_
  have f12 := (((E_a1.wr W5).wr W6).wr W9)
  have f13 := (((Fr.other W5 (Or.inr (slot_ne (Or.inl (tw144 H.1)) (Or.inl (tw43 H.1)) (by decide) (t := (.object "java/util/TreeMap$Entry")) (t' := .int) (by decide) (by decide)))).other W6 (Or.inr (slot_ne (Or.inl (tw144 H.1)) (Or.inl (tw45 H.1)) (by decide) (t := (.object "java/util/TreeMap$Entry")) (t' := .int) (by decide) (by decide)))).other W9 (Or.inr (slot_ne (Or.inl (tw144 H.1)) (Or.inr (tw47 H.1)) (by decide) (t := (.object "java/util/TreeMap$Entry")) (t' := (.object "java/util/Comparator")) (by decide) (by decide))))
  have f14 := (((Fe.other W5 (Or.inr (slot_ne (Or.inl (tw103 H.1)) (Or.inl (tw43 H.1)) (by decide) (t := (.object "java/util/TreeMap$EntrySet")) (t' := .int) (by decide) (by decide)))).other W6 (Or.inr (slot_ne (Or.inl (tw103 H.1)) (Or.inl (tw45 H.1)) (by decide) (t := (.object "java/util/TreeMap$EntrySet")) (t' := .int) (by decide) (by decide)))).other W9 (Or.inr (slot_ne (Or.inl (tw103 H.1)) (Or.inr (tw47 H.1)) (by decide) (t := (.object "java/util/TreeMap$EntrySet")) (t' := (.object "java/util/Comparator")) (by decide) (by decide))))
  have f15 := (F6.other W9 (Or.inr (slot_ne (Or.inl (tw45 H.1)) (Or.inr (tw47 H.1)) (by decide) (t := .int) (t' := (.object "java/util/Comparator")) (by decide) (by decide))))
  exact A9.leaveN hlk none (fun _ => rfl) (by decide) (by decide) ⟨rfl, ⟨f12, f13, f14, f15⟩⟩ (fun X hr => X.returnOut hx hrt (hb hby d4_19) hr)
theorem ef_hhm (m : MethodId) (y0 : Addr) (y1 : Addr) : entryFrame m #[(.ref y0), (.ref y1)] 2 = mkF m 0 #[vA y0, vA y1] [] := by first | (simp [entryFrame, mkF, argsToLocals, vI, vA, Value.category, maxLocals]; done) | rfl
def Q_hhm (Z : State) (a1 : Addr) (b1 : Addr) (u_fields : Value) (h0 : Heap) (v : Option Value) (h : Heap) : Prop := v = none ∧ Exa Z h a1 "com/example/gate_to_handlers/gatetohandlers/HttpHeaders" ∧ Fld Z h a1 "com/example/gate_to_handlers/gatetohandlers/HttpHeaders" "fields" "Ljava/util/Map;" (.ref b1)
def rm_hhm : Room := { frames := 1, cells := 0, slots := 0, locals := 12 }
set_option maxRecDepth 65536 in
set_option maxHeartbeats 40000000 in
theorem ct_hhm {l : Launch} {Z : State} {a0 : Array Value} (H : Ev Z a0) (a1 : Addr) (b1 : Addr) (u_fields : Value) {h0 : Heap} {n0 : Nat} (O0 : Old Z n0 h0) (E1 : Exa Z h0 a1 "com/example/gate_to_handlers/gatetohandlers/HttpHeaders") (g_a1 : n0 ≤ a1) (z_a1 : a1 < h0.size) (F_fields : Fld Z h0 a1 "com/example/gate_to_handlers/gatetohandlers/HttpHeaders" "fields" "Ljava/util/Map;" u_fields) : CtrN l Z (⟨"com/example/gate_to_handlers/gatetohandlers/HttpHeaders", "<init>", "(Ljava/util/Map;)V"⟩ : MethodName) prog_58_method_2_code 2 none [] rm_hhm #[(.ref a1), (.ref b1)] h0 [a1] n0 (Q_hhm Z a1 b1 u_fields h0) := by
  refine enterN (a0 := a0) (plainFor_of_name pn_5) O0 (allS ⟨g_a1, z_a1⟩ all0) ?_
  intro p e s m below meth c T0 hx hby hml hrt hnm hlk A0
  replace A0 : Wk false Z a0 [] n0 h0 [a1] "com/example/gate_to_handlers/gatetohandlers/HttpHeaders" p l e rm_hhm s m #[(.ref a1), (.ref b1)] below meth c [a1] T0 h0 0 0 := A0
  refine Run.st (T0.setTop (mkF m 0 #[vA a1, vA b1] [])) (fun _ k => castTop (ef_hhm m a1 b1) k) ?_
  refine Run.st (T0.setTop (mkF m 1 #[vA a1, vA b1] [(.ref a1)])) (fun _ k => XS.aloadN A0.here hx rfl (hb hby d5_0) rfl rfl k) ?_
  obtain ⟨T16, A16, st16⟩ := A0.initO hx (tw51 H.1) (tw12 H.1) (tw13 H.1) (g := (mkF m 1 #[vA a1, vA b1] [(.ref a1)])) rfl (by rw [hml]; rfl) rfl (hb hby d5_1) (by decide) (Wd := 0) (Nat.le_refl _) (by decide)
  refine Run.st (T16.setTop (mkF m 4 #[vA a1, vA b1] [])) st16 ?_
  refine Run.st (T16.setTop (mkF m 6 #[vA a1, vA b1] [(.ref b1), (.ref a1)])) (fun _ k => XS.aloadN A16.here hx rfl (hb hby d5_4) rfl rfl (XS.aloadN A16.here hx rfl (hb hby d5_5) rfl rfl k)) ?_
  obtain ⟨T17, h17, A17, K17, W17, st17⟩ := A16.putF hx (tw52 H.1) Via.refl (a := a1) (List.mem_of_getElem? (i := 0) rfl) (v' := (.ref b1)) F_fields E1 (Or.inr ⟨(tw53 H.1), rfl, hnm⟩) (tw23 H.1) (ty := (.object "java/util/Map")) (by decide) rfl rfl (g := (mkF m 6 #[vA a1, vA b1] [(.ref b1), (.ref a1)])) rfl rfl (hb hby d5_6)
  have F17 : Fld Z h17 a1 "com/example/gate_to_handlers/gatetohandlers/HttpHeaders" "fields" "Ljava/util/Map;" (.ref b1) := F_fields.same W17
  refine Run.st (T17.setTop (mkF m 9 #[vA a1, vA b1] [])) st17 ?_
  have f18 := (E1.wr W17)
  exact A17.leaveN hlk none (fun _ => rfl) (by decide) (by decide) ⟨rfl, f18, F17⟩ (fun X hr => X.returnOut hx hrt (hb hby d5_9) hr)
theorem ef_umi (m : MethodId) (y0 : Addr) (y1 : Addr) : entryFrame m #[(.ref y0), (.ref y1)] 2 = mkF m 0 #[vA y0, vA y1] [] := by first | (simp [entryFrame, mkF, argsToLocals, vI, vA, Value.category, maxLocals]; done) | rfl
def Q_umi (Z : State) (a1 : Addr) (b1 : Addr) (u_m : Value) (h0 : Heap) (v : Option Value) (h : Heap) : Prop := v = none ∧ Exa Z h a1 "java/util/Collections$UnmodifiableMap" ∧ Fld Z h a1 "java/util/Collections$UnmodifiableMap" "m" "Ljava/util/Map;" (.ref b1)
def rm_umi : Room := { frames := 1, cells := 0, slots := 0, locals := 12 }
set_option maxRecDepth 65536 in
set_option maxHeartbeats 40000000 in
theorem ct_umi {l : Launch} {Z : State} {a0 : Array Value} (H : Ev Z a0) (a1 : Addr) (b1 : Addr) (u_m : Value) {h0 : Heap} {n0 : Nat} (O0 : Old Z n0 h0) (E1 : Exa Z h0 a1 "java/util/Collections$UnmodifiableMap") (g_a1 : n0 ≤ a1) (z_a1 : a1 < h0.size) (F_m : Fld Z h0 a1 "java/util/Collections$UnmodifiableMap" "m" "Ljava/util/Map;" u_m) : CtrN l Z (⟨"java/util/Collections$UnmodifiableMap", "<init>", "(Ljava/util/Map;)V"⟩ : MethodName) jdk_2500_method_1_code 2 none [] rm_umi #[(.ref a1), (.ref b1)] h0 [a1] n0 (Q_umi Z a1 b1 u_m h0) := by
  refine enterN (a0 := a0) (plainFor_of_name pn_6) O0 (allS ⟨g_a1, z_a1⟩ all0) ?_
  intro p e s m below meth c T0 hx hby hml hrt hnm hlk A0
  replace A0 : Wk false Z a0 [] n0 h0 [a1] "java/util/Collections$UnmodifiableMap" p l e rm_umi s m #[(.ref a1), (.ref b1)] below meth c [a1] T0 h0 0 0 := A0
  refine Run.st (T0.setTop (mkF m 0 #[vA a1, vA b1] [])) (fun _ k => castTop (ef_umi m a1 b1) k) ?_
  refine Run.st (T0.setTop (mkF m 1 #[vA a1, vA b1] [(.ref a1)])) (fun _ k => XS.aloadN A0.here hx rfl (hb hby d6_0) rfl rfl k) ?_
  obtain ⟨T19, A19, st19⟩ := A0.initO hx (tw195 H.1) (tw12 H.1) (tw13 H.1) (g := (mkF m 1 #[vA a1, vA b1] [(.ref a1)])) rfl (by rw [hml]; rfl) rfl (hb hby d6_1) (by decide) (Wd := 0) (Nat.le_refl _) (by decide)
  refine Run.st (T19.setTop (mkF m 4 #[vA a1, vA b1] [])) st19 ?_
  refine Run.st (T19.setTop (mkF m 18 #[vA a1, vA b1] [(.ref b1), (.ref a1)])) (fun _ k => XS.aloadN A19.here hx rfl (hb hby d6_4) rfl rfl (XS.ifnonnullYes A19.here hx rfl (pc0 := 5) (pc' := 16) rfl (hb hby d6_5) rfl (by decide) (by decide) (XS.aloadN A19.here hx rfl (hb hby d6_16) rfl rfl (XS.aloadN A19.here hx rfl (hb hby d6_17) rfl rfl k)))) ?_
  obtain ⟨T20, h20, A20, K20, W20, st20⟩ := A19.putF hx (tw196 H.1) Via.refl (a := a1) (List.mem_of_getElem? (i := 0) rfl) (v' := (.ref b1)) F_m E1 (Or.inr ⟨(tw197 H.1), rfl, hnm⟩) (tw190 H.1) (ty := (.object "java/util/Map")) (by decide) rfl rfl (g := (mkF m 18 #[vA a1, vA b1] [(.ref b1), (.ref a1)])) rfl rfl (hb hby d6_18)
  have F20 : Fld Z h20 a1 "java/util/Collections$UnmodifiableMap" "m" "Ljava/util/Map;" (.ref b1) := F_m.same W20
  refine Run.st (T20.setTop (mkF m 21 #[vA a1, vA b1] [])) st20 ?_
  have f21 := (E1.wr W20)
  exact A20.leaveN hlk none (fun _ => rfl) (by decide) (by decide) ⟨rfl, f21, F20⟩ (fun X hr => X.returnOut hx hrt (hb hby d6_21) hr)
theorem ef_hh0 (m : MethodId) (y0 : Addr) : entryFrame m #[(.ref y0)] 1 = mkF m 0 #[vA y0] [] := by first | (simp [entryFrame, mkF, argsToLocals, vI, vA, Value.category, maxLocals]; done) | rfl
def Q_hh0 (Z : State) (a1 : Addr) (u1 : Value) (h0 : Heap) (v : Option Value) (h : Heap) : Prop := v = none ∧ Exa Z h a1 "com/example/gate_to_handlers/gatetohandlers/HttpHeaders" ∧ ∃ t : Addr, (h0.size ≤ t ∧ t < h.size) ∧ Fld Z h a1 "com/example/gate_to_handlers/gatetohandlers/HttpHeaders" "fields" "Ljava/util/Map;" (.ref t) ∧ TMok Z h t
def rm_hh0 : Room := { frames := 3, cells := 1, slots := 9, locals := 39 }
set_option maxRecDepth 65536 in
set_option maxHeartbeats 40000000 in
theorem ct_hh0 {l : Launch} {Z : State} {a0 : Array Value} (H : Ev Z a0) (a1 : Addr) (u1 : Value) {h0 : Heap} {n0 : Nat} (O0 : Old Z n0 h0) (E_a1 : Exa Z h0 a1 "com/example/gate_to_handlers/gatetohandlers/HttpHeaders") (g_a1 : n0 ≤ a1) (z_a1 : a1 < h0.size) (F1 : Fld Z h0 a1 "com/example/gate_to_handlers/gatetohandlers/HttpHeaders" "fields" "Ljava/util/Map;" u1) : CtrN l Z (⟨"com/example/gate_to_handlers/gatetohandlers/HttpHeaders", "<init>", "()V"⟩ : MethodName) prog_58_method_1_code 1 none [] rm_hh0 #[(.ref a1)] h0 [a1] n0 (Q_hh0 Z a1 u1 h0) := by
  refine enterN (a0 := a0) (plainFor_of_name pn_5) O0 (allS ⟨g_a1, z_a1⟩ all0) ?_
  intro p e s m below meth c T0 hx hby hml hrt hnm hlk A0
  replace A0 : Wk false Z a0 [] n0 h0 [a1] "com/example/gate_to_handlers/gatetohandlers/HttpHeaders" p l e rm_hh0 s m #[(.ref a1)] below meth c [a1] T0 h0 0 0 := A0
  refine Run.st (T0.setTop (mkF m 0 #[vA a1] [])) (fun _ k => castTop (ef_hh0 m a1) k) ?_
  obtain ⟨fc, Sc, rc⟩ := H.2.2.2.1
  refine Run.st (T0.setTop (mkF m 1 #[vA a1] [(.ref a1)])) (fun _ k => XS.aloadN A0.here hx rfl (hb hby d7_0) rfl rfl k) ?_
  obtain ⟨a22, T22, h22, A22, E22, g22, Ex22, D22, st22⟩ := A0.newO hx (tw28 H.1) (tw29 H.1) (tw30 H.1) (g := (mkF m 1 #[vA a1] [(.ref a1)])) rfl (hb hby d7_1) (by decide) (by decide)
  refine Run.st (T22.setTop (mkF m 4 #[vA a1] [(.ref a22), (.ref a1)])) st22 ?_
  refine Run.st (T22.setTop (mkF m 5 #[vA a1] [(.ref a22), (.ref a22), (.ref a1)])) (fun _ k => XS.dup A22.here hx rfl (hb hby d7_4) rfl rfl k) ?_
  obtain ⟨T23, A23, st23⟩ := A22.getS hx (tw31 H.1) Via.refl (Sc.ext A22.old.2) (g := (mkF m 5 #[vA a1] [(.ref a22), (.ref a22), (.ref a1)])) rfl (hb hby d7_5)
  refine Run.st (T23.setTop (mkF m 8 #[vA a1] [fc, (.ref a22), (.ref a22), (.ref a1)])) st23 ?_
  have F25 : Fld Z h22 a22 "java/util/TreeMap" "size" "I" (.int 0) := D22 (Or.inl (tw43 H.1)) (ty := .int) (by decide)
  have F26 : Fld Z h22 a22 "java/util/TreeMap" "modCount" "I" (.int 0) := D22 (Or.inl (tw45 H.1)) (ty := .int) (by decide)
  have F27 : Fld Z h22 a22 "java/util/TreeMap" "comparator" "Ljava/util/Comparator;" .null := D22 (Or.inr (tw47 H.1)) (ty := (.object "java/util/Comparator")) (by decide)
  have F28 : Fld Z h22 a22 "java/util/TreeMap" "root" "Ljava/util/TreeMap$Entry;" .null := D22 (Or.inl (tw144 H.1)) (ty := (.object "java/util/TreeMap$Entry")) (by decide)
  have F29 : Fld Z h22 a22 "java/util/TreeMap" "entrySet" "Ljava/util/TreeMap$EntrySet;" .null := D22 (Or.inl (tw103 H.1)) (ty := (.object "java/util/TreeMap$EntrySet")) (by decide)
  obtain ⟨v24, T24, h24, AA24, K24, ⟨L24, Q24⟩, st24⟩ := A23.callI hx (y := (⟨"java/util/TreeMap", "<init>", "(Ljava/util/Comparator;)V"⟩ : MethodName)) rfl (tw32 H.1) (tw33 H.1) (tw34 H.1) (by decide) (g := (mkF m 8 #[vA a1] [fc, (.ref a22), (.ref a22), (.ref a1)])) rfl (by rw [hml]; rfl) a22 [fc] [(.ref a22), (.ref a1)] (lenOf pd_1 rfl) rfl (Wd := 2) (Nat.le_refl _) (hb hby d7_8) (by decide) (by decide) [a22] (fun _ _ _ q => q.2) (allS (List.mem_of_getElem? (i := 0) rfl) all0) (fun vm0 hZ => payN (ct_tmi H a22 fc (.int 0) (.int 0) .null A23.old Ex22 (A23.nle (List.mem_of_getElem? (i := 0) rfl)) Ex22.lt F28 F29 F25 F26 F27 rc) (tw34 H.1) (tw30 H.1) (by decide) (by decide) hZ)
  obtain ⟨Q24, N24, -⟩ := Q24
  obtain ⟨rfl, Tq24⟩ := Q24
  obtain ⟨Te24, Tr24, Ts24, Tm24⟩ := Tq24
  have A24 := AA24 [] all0
  refine Run.st (T24.setTop (mkF m 11 #[vA a1] [(.ref a22), (.ref a1)])) st24 ?_
  have X31 : Ext h0 h22 := E22
  have X32 : Ext h0 h24 := extK X31 K24 (allS (Nat.le_of_eq g22) all0)
  have f33 := E_a1.ext X32
  have f34 := F1.ext X32
  obtain ⟨v30, T30, h30, AA30, K30, ⟨L30, Q30⟩, st30⟩ := A24.callI hx (y := (⟨"com/example/gate_to_handlers/gatetohandlers/HttpHeaders", "<init>", "(Ljava/util/Map;)V"⟩ : MethodName)) rfl (tw48 H.1) (tw49 H.1) (tw50 H.1) (by decide) (g := (mkF m 11 #[vA a1] [(.ref a22), (.ref a1)])) rfl (by rw [hml]; rfl) a1 [(.ref a22)] [] (lenOf pd_2 rfl) rfl (Wd := 0) (Nat.le_refl _) (hb hby d7_11) (by decide) (by decide) [a1] (fun _ _ _ q => q.2) (allS (List.mem_of_getElem? (i := 1) rfl) all0) (fun vm0 hZ => payN (ct_hhm H a1 a22 u1 A24.old f33 (A24.nle (List.mem_of_getElem? (i := 1) rfl)) f33.lt f34) (tw50 H.1) (tw24 H.1) (by decide) (by decide) hZ)
  obtain ⟨Q30, N30, -⟩ := Q30
  obtain ⟨rfl, Ec30, Fc30_fields⟩ := Q30
  have A30 := AA30 [] all0
  refine Run.st (T30.setTop (mkF m 14 #[vA a1] [])) st30 ?_
  have f35 := (Te24.keep K30)
  have f36 := (Tr24.keep K30 (ninS (ne_exa Te24 f33 (by decide)) nin0))
  have f37 := (Ts24.keep K30 (ninS (ne_exa Te24 f33 (by decide)) nin0))
  have f38 := (Tm24.keep K30 (ninS (ne_exa Te24 f33 (by decide)) nin0))
  exact A30.leaveN hlk none (fun _ => rfl) (by decide) (by decide) ⟨rfl, Ec30, a22, ⟨(Nat.le_of_eq g22), f35.lt⟩, Fc30_fields, ⟨f35, f36, f37, f38⟩⟩ (fun X hr => X.returnOut hx hrt (hb hby d7_14) hr)
theorem ef_esi (m : MethodId) (y0 : Addr) (y1 : Addr) : entryFrame m #[(.ref y0), (.ref y1)] 2 = mkF m 0 #[vA y0, vA y1] [] := by first | (simp [entryFrame, mkF, argsToLocals, vI, vA, Value.category, maxLocals]; done) | rfl
def Q_esi (Z : State) (a1 : Addr) (t1 : Addr) (u1 : Value) (h0 : Heap) (v : Option Value) (h : Heap) : Prop := v = none ∧ Exa Z h a1 "java/util/TreeMap$EntrySet" ∧ Fld Z h a1 "java/util/TreeMap$EntrySet" "this$0" "Ljava/util/TreeMap;" (.ref t1)
def rm_esi : Room := { frames := 3, cells := 0, slots := 0, locals := 36 }
set_option maxRecDepth 65536 in
set_option maxHeartbeats 40000000 in
theorem ct_esi {l : Launch} {Z : State} {a0 : Array Value} (H : Ev Z a0) (a1 : Addr) (t1 : Addr) (u1 : Value) {h0 : Heap} {n0 : Nat} (O0 : Old Z n0 h0) (E_a1 : Exa Z h0 a1 "java/util/TreeMap$EntrySet") (g_a1 : n0 ≤ a1) (z_a1 : a1 < h0.size) (F1 : Fld Z h0 a1 "java/util/TreeMap$EntrySet" "this$0" "Ljava/util/TreeMap;" u1) : CtrN l Z (⟨"java/util/TreeMap$EntrySet", "<init>", "(Ljava/util/TreeMap;)V"⟩ : MethodName) jdk_2738_method_1_code 2 none [] rm_esi #[(.ref a1), (.ref t1)] h0 [a1] n0 (Q_esi Z a1 t1 u1 h0) := by
  refine enterN (a0 := a0) (plainFor_of_name pn_7) O0 (allS ⟨g_a1, z_a1⟩ all0) ?_
  intro p e s m below meth c T0 hx hby hml hrt hnm hlk A0
  replace A0 : Wk false Z a0 [] n0 h0 [a1] "java/util/TreeMap$EntrySet" p l e rm_esi s m #[(.ref a1), (.ref t1)] below meth c [a1] T0 h0 0 0 := A0
  refine Run.st (T0.setTop (mkF m 0 #[vA a1, vA t1] [])) (fun _ k => castTop (ef_esi m a1 t1) k) ?_
  refine Run.st (T0.setTop (mkF m 2 #[vA a1, vA t1] [(.ref t1), (.ref a1)])) (fun _ k => XS.aloadN A0.here hx rfl (hb hby d8_0) rfl rfl (XS.aloadN A0.here hx rfl (hb hby d8_1) rfl rfl k)) ?_
  obtain ⟨T39, h39, A39, K39, W39, st39⟩ := A0.putF hx (tw111 H.1) Via.refl (a := a1) (List.mem_of_getElem? (i := 0) rfl) (v' := (.ref t1)) F1 E_a1 (Or.inr ⟨(tw112 H.1), rfl, hnm⟩) (tw105 H.1) (ty := (.object "java/util/TreeMap")) (by decide) rfl rfl (g := (mkF m 2 #[vA a1, vA t1] [(.ref t1), (.ref a1)])) rfl rfl (hb hby d8_2)
  have F39 : Fld Z h39 a1 "java/util/TreeMap$EntrySet" "this$0" "Ljava/util/TreeMap;" (.ref t1) := F1.same W39
  refine Run.st (T39.setTop (mkF m 5 #[vA a1, vA t1] [])) st39 ?_
  refine Run.st (T39.setTop (mkF m 6 #[vA a1, vA t1] [(.ref a1)])) (fun _ k => XS.aloadN A39.here hx rfl (hb hby d8_5) rfl rfl k) ?_
  obtain ⟨v40, T40, h40, AA40, K40, ⟨L40, Q40⟩, st40⟩ := A39.callI hx (y := (⟨"java/util/AbstractSet", "<init>", "()V"⟩ : MethodName)) rfl (tw113 H.1) (tw114 H.1) (tw118 H.1) (by decide) (g := (mkF m 6 #[vA a1, vA t1] [(.ref a1)])) rfl (by rw [hml]; rfl) a1 [] [] (lenOf pd_0 rfl) rfl (Wd := 0) (Nat.le_refl _) (hb hby d8_6) (by decide) (by decide) [] (fun _ _ _ q => q.2) all0 (fun vm0 hZ => payN (ct_aset H a1 A39.old) (tw118 H.1) (tw117 H.1) (by decide) (by decide) hZ)
  obtain ⟨Q40, N40, -⟩ := Q40
  obtain ⟨rfl, q40⟩ := Q40
  have q40 := q40.symm
  subst q40
  have A40 := AA40 [] all0
  refine Run.st (T40.setTop (mkF m 9 #[vA a1, vA t1] [])) st40 ?_
  have f41 := (E_a1.wr W39)
  exact A40.leaveN hlk none (fun _ => rfl) (by decide) (by decide) ⟨rfl, f41, F39⟩ (fun X hr => X.returnOut hx hrt (hb hby d8_9) hr)
theorem ef_tmes (m : MethodId) (y0 : Addr) : entryFrame m #[(.ref y0)] 2 = mkF m 0 #[vA y0, .unset] [] := by first | (simp [entryFrame, mkF, argsToLocals, vI, vA, Value.category, maxLocals]; done) | rfl
def Q_tmes (Z : State) (t1 : Addr) (h0 : Heap) (v : Option Value) (h : Heap) : Prop := ∃ s1 : Addr, v = some (.ref s1) ∧ (h0.size ≤ s1 ∧ s1 < h.size) ∧ Exa Z h s1 "java/util/TreeMap$EntrySet" ∧ Fld Z h s1 "java/util/TreeMap$EntrySet" "this$0" "Ljava/util/TreeMap;" (.ref t1) ∧ TMr Z h t1
def rm_tmes : Room := { frames := 4, cells := 1, slots := 1, locals := 51 }
set_option maxRecDepth 65536 in
set_option maxHeartbeats 40000000 in
theorem ct_tmes {l : Launch} {Z : State} {a0 : Array Value} (H : Ev Z a0) (t1 : Addr) {h0 : Heap} {n0 : Nat} (O0 : Old Z n0 h0) (E_t1 : Exa Z h0 t1 "java/util/TreeMap") (Fr_t1 : Fld Z h0 t1 "java/util/TreeMap" "root" "Ljava/util/TreeMap$Entry;" .null) (Fe_t1 : Fld Z h0 t1 "java/util/TreeMap" "entrySet" "Ljava/util/TreeMap$EntrySet;" .null) (Fm_t1 : Fld Z h0 t1 "java/util/TreeMap" "modCount" "I" (.int (0 : Int32))) (g_t1 : n0 ≤ t1) (z_t1 : t1 < h0.size) : CtrN l Z (⟨"java/util/TreeMap", "entrySet", "()Ljava/util/Set;"⟩ : MethodName) jdk_2729_method_53_code 2 (some (.object "java/util/Set")) [] rm_tmes #[(.ref t1)] h0 [t1] n0 (Q_tmes Z t1 h0) := by
  refine enterN (a0 := a0) (plainFor_of_name pn_4) O0 (allS ⟨g_t1, z_t1⟩ all0) ?_
  intro p e s m below meth c T0 hx hby hml hrt hnm hlk A0
  replace A0 : Wk false Z a0 [] n0 h0 [t1] "java/util/TreeMap" p l e rm_tmes s m #[(.ref t1)] below meth c [t1] T0 h0 0 0 := A0
  refine Run.st (T0.setTop (mkF m 0 #[vA t1, .unset] [])) (fun _ k => castTop (ef_tmes m t1) k) ?_
  refine Run.st (T0.setTop (mkF m 1 #[vA t1, .unset] [(.ref t1)])) (fun _ k => XS.aloadN A0.here hx rfl (hb hby d9_0) rfl rfl k) ?_
  obtain ⟨T42, A42, st42⟩ := A0.getF hx (tw102 H.1) Via.refl Fe_t1 (g := (mkF m 1 #[vA t1, .unset] [(.ref t1)])) rfl rfl (hb hby d9_1)
  refine Run.st (T42.setTop (mkF m 4 #[vA t1, .unset] [.null])) st42 ?_
  refine Run.st (T42.setTop (mkF m 14 #[vA t1, .val .null] [(.ref t1)])) (fun _ k => XS.astoreN A42.here hx rfl (hb hby d9_4) rfl rfl (l' := #[vA t1, .val .null]) rfl (XS.aloadN A42.here hx rfl (hb hby d9_5) rfl rfl (XS.ifnullYes A42.here hx rfl (pc0 := 6) (pc' := 13) rfl (hb hby d9_6) rfl (by decide) (by decide) (XS.aloadN A42.here hx rfl (hb hby d9_13) rfl rfl k)))) ?_
  obtain ⟨a43, T43, h43, A43, E43, g43, Ex43, D43, st43⟩ := A42.newO hx (tw104 H.1) (tw105 H.1) (tw106 H.1) (g := (mkF m 14 #[vA t1, .val .null] [(.ref t1)])) rfl (hb hby d9_14) (by decide) (by decide)
  refine Run.st (T43.setTop (mkF m 17 #[vA t1, .val .null] [(.ref a43), (.ref t1)])) st43 ?_
  refine Run.st (T43.setTop (mkF m 19 #[vA t1, .val .null] [(.ref t1), (.ref a43), (.ref a43), (.ref t1)])) (fun _ k => XS.dup A43.here hx rfl (hb hby d9_17) rfl rfl (XS.aloadN A43.here hx rfl (hb hby d9_18) rfl rfl k)) ?_
  have F45 : Fld Z h43 a43 "java/util/TreeMap$EntrySet" "this$0" "Ljava/util/TreeMap;" .null := D43 (Or.inr (tw112 H.1)) (ty := (.object "java/util/TreeMap")) (by decide)
  obtain ⟨v44, T44, h44, AA44, K44, ⟨L44, Q44⟩, st44⟩ := A43.callI hx (y := (⟨"java/util/TreeMap$EntrySet", "<init>", "(Ljava/util/TreeMap;)V"⟩ : MethodName)) rfl (tw107 H.1) (tw108 H.1) (tw110 H.1) (by decide) (g := (mkF m 19 #[vA t1, .val .null] [(.ref t1), (.ref a43), (.ref a43), (.ref t1)])) rfl (by rw [hml]; rfl) a43 [(.ref t1)] [(.ref a43), (.ref t1)] (lenOf pd_3 rfl) rfl (Wd := 2) (Nat.le_refl _) (hb hby d9_19) (by decide) (by decide) [a43] (fun _ _ _ q => q.2) (allS (List.mem_of_getElem? (i := 0) rfl) all0) (fun vm0 hZ => payN (ct_esi H a43 t1 .null A43.old Ex43 (A43.nle (List.mem_of_getElem? (i := 0) rfl)) Ex43.lt F45) (tw110 H.1) (tw106 H.1) (by decide) (by decide) hZ)
  obtain ⟨Q44, N44, -⟩ := Q44
  obtain ⟨rfl, Ec44, Ff44⟩ := Q44
  have A44 := AA44 [] all0
  refine Run.st (T44.setTop (mkF m 22 #[vA t1, .val .null] [(.ref a43), (.ref t1)])) st44 ?_
  refine Run.st (T44.setTop (mkF m 23 #[vA t1, .val .null] [(.ref a43), (.ref t1), (.ref a43)])) (fun _ k => XS.dupX1 A44.here hx rfl (hb hby d9_22) rfl rfl rfl k) ?_
  have X47 : Ext h0 h43 := E43
  have X48 : Ext h0 h44 := extK X47 K44 (allS (Nat.le_of_eq g43) all0)
  have f49 := Fe_t1.ext X48
  have f50 := E_t1.ext X48
  obtain ⟨T46, h46, A46, K46, W46, st46⟩ := A44.putF hx (tw102 H.1) Via.refl (a := t1) (List.mem_of_getElem? (i := 1) rfl) (v' := (.ref a43)) f49 f50 (Or.inl (tw103 H.1)) (tw29 H.1) (ty := (.object "java/util/TreeMap$EntrySet")) (by decide) rfl rfl (g := (mkF m 23 #[vA t1, .val .null] [(.ref a43), (.ref t1), (.ref a43)])) rfl rfl (hb hby d9_23)
  have F46 : Fld Z h46 t1 "java/util/TreeMap" "entrySet" "Ljava/util/TreeMap$EntrySet;" (.ref a43) := f49.same W46
  refine Run.st (T46.setTop (mkF m 26 #[vA t1, .val .null] [(.ref a43)])) st46 ?_
  have f51 := (Ec44.wr W46)
  have f52 := (Ff44.keep K46 (ninS (ne_exa Ec44 f50 (by decide)) nin0))
  have f53 := (((E_t1.ext E43).keep K44).wr W46)
  have f54 := (((Fr_t1.ext E43).keep K44 (ninS (Nat.ne_of_lt (Nat.lt_of_lt_of_le Fr_t1.lt (Nat.le_of_eq g43))) nin0)).other W46 (Or.inr (slot_ne (Or.inl (tw144 H.1)) (Or.inl (tw103 H.1)) (by decide) (t := (.object "java/util/TreeMap$Entry")) (t' := (.object "java/util/TreeMap$EntrySet")) (by decide) (by decide))))
  have f55 := (((Fm_t1.ext E43).keep K44 (ninS (Nat.ne_of_lt (Nat.lt_of_lt_of_le Fm_t1.lt (Nat.le_of_eq g43))) nin0)).other W46 (Or.inr (slot_ne (Or.inl (tw45 H.1)) (Or.inl (tw103 H.1)) (by decide) (t := .int) (t' := (.object "java/util/TreeMap$EntrySet")) (by decide) (by decide))))
  exact A46.leaveN hlk (some (.ref a43)) (fun q => by rw [hrt] at q; cases q) (by decide) (by decide) ⟨a43, rfl, ⟨(Nat.le_of_eq g43), f51.lt⟩, f51, f52, ⟨f53, f54, f55⟩⟩ (fun X hr => retOut X hx (w := (.ref a43)) (t := (.object "java/util/Set")) hrt rfl (Or.inr (Or.inr (Or.inr (Or.inr ⟨rfl, rfl, rfl⟩)))) (hb hby d9_26) hr)
theorem ef_hhes (m : MethodId) (y0 : Addr) : entryFrame m #[(.ref y0)] 1 = mkF m 0 #[vA y0] [] := by first | (simp [entryFrame, mkF, argsToLocals, vI, vA, Value.category, maxLocals]; done) | rfl
def Q_hhes (Z : State) (a1 : Addr) (t1 : Addr) (h0 : Heap) (v : Option Value) (h : Heap) : Prop := ∃ s1 : Addr, v = some (.ref s1) ∧ (h0.size ≤ s1 ∧ s1 < h.size) ∧ Exa Z h s1 "java/util/TreeMap$EntrySet" ∧ Fld Z h s1 "java/util/TreeMap$EntrySet" "this$0" "Ljava/util/TreeMap;" (.ref t1) ∧ TMr Z h t1
def rm_hhes : Room := { frames := 5, cells := 1, slots := 1, locals := 64 }
set_option maxRecDepth 65536 in
set_option maxHeartbeats 40000000 in
theorem ct_hhes {l : Launch} {Z : State} {a0 : Array Value} (H : Ev Z a0) (a1 : Addr) (t1 : Addr) {h0 : Heap} {n0 : Nat} (O0 : Old Z n0 h0) (F1 : Fld Z h0 a1 "com/example/gate_to_handlers/gatetohandlers/HttpHeaders" "fields" "Ljava/util/Map;" (.ref t1)) (E_t1 : Exa Z h0 t1 "java/util/TreeMap") (Fr_t1 : Fld Z h0 t1 "java/util/TreeMap" "root" "Ljava/util/TreeMap$Entry;" .null) (Fe_t1 : Fld Z h0 t1 "java/util/TreeMap" "entrySet" "Ljava/util/TreeMap$EntrySet;" .null) (Fm_t1 : Fld Z h0 t1 "java/util/TreeMap" "modCount" "I" (.int (0 : Int32))) (g_t1 : n0 ≤ t1) (z_t1 : t1 < h0.size) : CtrN l Z (⟨"com/example/gate_to_handlers/gatetohandlers/HttpHeaders", "entrySet", "()Ljava/util/Set;"⟩ : MethodName) prog_58_method_26_code 1 (some (.object "java/util/Set")) [] rm_hhes #[(.ref a1)] h0 [t1] n0 (Q_hhes Z a1 t1 h0) := by
  refine enterN (a0 := a0) (plainFor_of_name pn_5) O0 (allS ⟨g_t1, z_t1⟩ all0) ?_
  intro p e s m below meth c T0 hx hby hml hrt hnm hlk A0
  replace A0 : Wk false Z a0 [] n0 h0 [t1] "com/example/gate_to_handlers/gatetohandlers/HttpHeaders" p l e rm_hhes s m #[(.ref a1)] below meth c [t1] T0 h0 0 0 := A0
  refine Run.st (T0.setTop (mkF m 0 #[vA a1] [])) (fun _ k => castTop (ef_hhes m a1) k) ?_
  refine Run.st (T0.setTop (mkF m 1 #[vA a1] [(.ref a1)])) (fun _ k => XS.aloadN A0.here hx rfl (hb hby d10_0) rfl rfl k) ?_
  obtain ⟨T56, A56, st56⟩ := A0.getF hx (tw52 H.1) Via.refl F1 (g := (mkF m 1 #[vA a1] [(.ref a1)])) rfl rfl (hb hby d10_1)
  refine Run.st (T56.setTop (mkF m 4 #[vA a1] [(.ref t1)])) st56 ?_
  obtain ⟨v57, T57, h57, AA57, K57, ⟨L57, Q57⟩, st57⟩ := A56.callF hx (y := (⟨"java/util/Map", "entrySet", "()Ljava/util/Set;"⟩ : MethodName)) (z := (⟨"java/util/TreeMap", "entrySet", "()Ljava/util/Set;"⟩ : MethodName)) (tw95 H.1) (tw88 H.1) (tw89 H.1) (tw96 H.1) (tw97 H.1) (tw98 H.1) (tw99 H.1) (tw100 H.1) (by decide) E_t1 (g := (mkF m 4 #[vA a1] [(.ref t1)])) rfl (by rw [hml]; rfl) [] [] (lenOf pd_4 rfl) rfl (Wd := 0) (Nat.le_refl _) (hb hby d10_4) (by decide) (by decide) [t1] (fun _ _ _ q => q.2) (allS (List.mem_of_getElem? (i := 0) rfl) all0) (fun vm0 hZ => payN (ct_tmes H t1 A56.old E_t1 Fr_t1 Fe_t1 Fm_t1 (A56.nle (List.mem_of_getElem? (i := 0) rfl)) E_t1.lt) (tw101 H.1) (tw30 H.1) (by decide) (by decide) hZ)
  obtain ⟨Q57, N57, -⟩ := Q57
  obtain ⟨s57, rfl, gt57, Ec57, Ff57, Tq57⟩ := Q57
  obtain ⟨Te57, Tr57, Tm57⟩ := Tq57
  have A57 := AA57 [s57] (allS (Or.inr gt57) all0)
  refine Run.st (T57.setTop (mkF m 9 #[vA a1] [(.ref s57)])) st57 ?_
  exact A57.leaveN hlk (some (.ref s57)) (fun q => by rw [hrt] at q; cases q) (by decide) (by decide) ⟨s57, rfl, ⟨gt57.1, Ec57.lt⟩, Ec57, Ff57, ⟨Te57, Tr57, Tm57⟩⟩ (fun X hr => retOut X hx (w := (.ref s57)) (t := (.object "java/util/Set")) hrt rfl (Or.inr (Or.inr (Or.inr (Or.inr ⟨rfl, rfl, rfl⟩)))) (hb hby d10_9) hr)
theorem ef_gfe (m : MethodId) (y0 : Addr) : entryFrame m #[(.ref y0)] 2 = mkF m 0 #[vA y0, .unset] [] := by first | (simp [entryFrame, mkF, argsToLocals, vI, vA, Value.category, maxLocals]; done) | rfl
def Q_gfe (Z : State) (a1 : Addr) (h0 : Heap) (v : Option Value) (h : Heap) : Prop := v = some .null ∧ h = h0
def rm_gfe : Room := { frames := 0, cells := 0, slots := 0, locals := 0 }
set_option maxRecDepth 65536 in
set_option maxHeartbeats 40000000 in
theorem ct_gfe {l : Launch} {Z : State} {a0 : Array Value} (H : Ev Z a0) (a1 : Addr) {h0 : Heap} {n0 : Nat} (O0 : Old Z n0 h0) (F1 : Fld Z h0 a1 "java/util/TreeMap" "root" "Ljava/util/TreeMap$Entry;" .null) : CtrN l Z (⟨"java/util/TreeMap", "getFirstEntry", "()Ljava/util/TreeMap$Entry;"⟩ : MethodName) jdk_2729_method_72_code 2 (some (.object "java/util/TreeMap$Entry")) [] rm_gfe #[(.ref a1)] h0 [] n0 (Q_gfe Z a1 h0) := by
  refine enterN (a0 := a0) (plainFor_of_name pn_4) O0 all0 ?_
  intro p e s m below meth c T0 hx hby hml hrt hnm hlk A0
  replace A0 : Wk false Z a0 [] n0 h0 [] "java/util/TreeMap" p l e rm_gfe s m #[(.ref a1)] below meth c [] T0 h0 0 0 := A0
  refine Run.st (T0.setTop (mkF m 0 #[vA a1, .unset] [])) (fun _ k => castTop (ef_gfe m a1) k) ?_
  refine Run.st (T0.setTop (mkF m 1 #[vA a1, .unset] [(.ref a1)])) (fun _ k => XS.aloadN A0.here hx rfl (hb hby d11_0) rfl rfl k) ?_
  obtain ⟨T58, A58, st58⟩ := A0.getF hx (tw143 H.1) Via.refl F1 (g := (mkF m 1 #[vA a1, .unset] [(.ref a1)])) rfl rfl (hb hby d11_1)
  refine Run.st (T58.setTop (mkF m 4 #[vA a1, .unset] [.null])) st58 ?_
  refine Run.st (T58.setTop (mkF m 25 #[vA a1, .val .null] [.null])) (fun _ k => XS.astoreN A58.here hx rfl (hb hby d11_4) rfl rfl (l' := #[vA a1, .val .null]) rfl (XS.aloadN A58.here hx rfl (hb hby d11_5) rfl rfl (XS.ifnullYes A58.here hx rfl (pc0 := 6) (pc' := 24) rfl (hb hby d11_6) rfl (by decide) (by decide) (XS.aloadN A58.here hx rfl (hb hby d11_24) rfl rfl k)))) ?_
  exact A58.leaveN hlk (some .null) (fun q => by rw [hrt] at q; cases q) (by decide) (by decide) ⟨rfl, rfl⟩ (fun X hr => retOut X hx (w := .null) (t := (.object "java/util/TreeMap$Entry")) hrt rfl (Or.inr (Or.inr (Or.inr (Or.inr ⟨rfl, rfl, rfl⟩)))) (hb hby d11_25) hr)
theorem ef_pei (m : MethodId) (y0 : Addr) (y1 : Addr) : entryFrame m #[(.ref y0), (.ref y1), .null] 3 = mkF m 0 #[vA y0, vA y1, .val .null] [] := by first | (simp [entryFrame, mkF, argsToLocals, vI, vA, Value.category, maxLocals]; done) | rfl
def Q_pei (Z : State) (a1 : Addr) (t1 : Addr) (u1 : Value) (u2 : Value) (u3 : Value) (u4 : Value) (h0 : Heap) (v : Option Value) (h : Heap) : Prop := v = none ∧ Exa Z h a1 "java/util/TreeMap$EntryIterator" ∧ Fld Z h a1 "java/util/TreeMap$PrivateEntryIterator" "next" "Ljava/util/TreeMap$Entry;" .null
def rm_pei : Room := { frames := 1, cells := 0, slots := 0, locals := 12 }
set_option maxRecDepth 65536 in
set_option maxHeartbeats 40000000 in
theorem ct_pei {l : Launch} {Z : State} {a0 : Array Value} (H : Ev Z a0) (a1 : Addr) (t1 : Addr) (u1 : Value) (u2 : Value) (u3 : Value) (u4 : Value) {h0 : Heap} {n0 : Nat} (O0 : Old Z n0 h0) (E_a1 : Exa Z h0 a1 "java/util/TreeMap$EntryIterator") (g_a1 : n0 ≤ a1) (z_a1 : a1 < h0.size) (F_u1 : Fld Z h0 a1 "java/util/TreeMap$PrivateEntryIterator" "this$0" "Ljava/util/TreeMap;" u1) (F_u2 : Fld Z h0 a1 "java/util/TreeMap$PrivateEntryIterator" "expectedModCount" "I" u2) (F_u3 : Fld Z h0 a1 "java/util/TreeMap$PrivateEntryIterator" "lastReturned" "Ljava/util/TreeMap$Entry;" u3) (F_u4 : Fld Z h0 a1 "java/util/TreeMap$PrivateEntryIterator" "next" "Ljava/util/TreeMap$Entry;" u4) (E_t1 : Exa Z h0 t1 "java/util/TreeMap") (Fm : Fld Z h0 t1 "java/util/TreeMap" "modCount" "I" (.int (0 : Int32))) : CtrN l Z (⟨"java/util/TreeMap$PrivateEntryIterator", "<init>", "(Ljava/util/TreeMap;Ljava/util/TreeMap$Entry;)V"⟩ : MethodName) jdk_2750_method_1_code 3 none [] rm_pei #[(.ref a1), (.ref t1), .null] h0 [a1] n0 (Q_pei Z a1 t1 u1 u2 u3 u4 h0) := by
  refine enterN (a0 := a0) (plainFor_of_name pn_8) O0 (allS ⟨g_a1, z_a1⟩ all0) ?_
  intro p e s m below meth c T0 hx hby hml hrt hnm hlk A0
  replace A0 : Wk false Z a0 [] n0 h0 [a1] "java/util/TreeMap$PrivateEntryIterator" p l e rm_pei s m #[(.ref a1), (.ref t1), .null] below meth c [a1] T0 h0 0 0 := A0
  refine Run.st (T0.setTop (mkF m 0 #[vA a1, vA t1, .val .null] [])) (fun _ k => castTop (ef_pei m a1 t1) k) ?_
  refine Run.st (T0.setTop (mkF m 2 #[vA a1, vA t1, .val .null] [(.ref t1), (.ref a1)])) (fun _ k => XS.aloadN A0.here hx rfl (hb hby d12_0) rfl rfl (XS.aloadN A0.here hx rfl (hb hby d12_1) rfl rfl k)) ?_
  obtain ⟨T59, h59, A59, K59, W59, st59⟩ := A0.putF hx (tw155 H.1) Via.refl (a := a1) (List.mem_of_getElem? (i := 0) rfl) (v' := (.ref t1)) F_u1 E_a1 (Or.inr ⟨(tw156 H.1), rfl, hnm⟩) (tw136 H.1) (ty := (.object "java/util/TreeMap")) (by decide) rfl rfl (g := (mkF m 2 #[vA a1, vA t1, .val .null] [(.ref t1), (.ref a1)])) rfl rfl (hb hby d12_2)
  have F59 : Fld Z h59 a1 "java/util/TreeMap$PrivateEntryIterator" "this$0" "Ljava/util/TreeMap;" (.ref t1) := F_u1.same W59
  refine Run.st (T59.setTop (mkF m 5 #[vA a1, vA t1, .val .null] [])) st59 ?_
  refine Run.st (T59.setTop (mkF m 6 #[vA a1, vA t1, .val .null] [(.ref a1)])) (fun _ k => XS.aloadN A59.here hx rfl (hb hby d12_5) rfl rfl k) ?_
  obtain ⟨T60, A60, st60⟩ := A59.initO hx (tw157 H.1) (tw12 H.1) (tw13 H.1) (g := (mkF m 6 #[vA a1, vA t1, .val .null] [(.ref a1)])) rfl (by rw [hml]; rfl) rfl (hb hby d12_6) (by decide) (Wd := 0) (Nat.le_refl _) (by decide)
  refine Run.st (T60.setTop (mkF m 9 #[vA a1, vA t1, .val .null] [])) st60 ?_
  refine Run.st (T60.setTop (mkF m 11 #[vA a1, vA t1, .val .null] [(.ref t1), (.ref a1)])) (fun _ k => XS.aloadN A60.here hx rfl (hb hby d12_9) rfl rfl (XS.aloadN A60.here hx rfl (hb hby d12_10) rfl rfl k)) ?_
  have f61 := (Fm.keep K59 (ninS (ne_exa E_t1 E_a1 (by decide)) nin0))
  refine Run.st (T60.setTop (mkF m 14 #[vA a1, vA t1, .val .null] [.int 0, (.ref a1)])) (A60.getFR hx (tw158 H.1) f61 (g := (mkF m 11 #[vA a1, vA t1, .val .null] [(.ref t1), (.ref a1)])) rfl rfl (hb hby d12_11)) ?_
  have f63 := (F_u2.other W59 (Or.inr (slot_ne (Or.inl (tw160 H.1)) (Or.inr (tw156 H.1)) (by decide) (t := .int) (t' := (.object "java/util/TreeMap")) (by decide) (by decide))))
  have f64 := (E_a1.wr W59)
  obtain ⟨T62, h62, A62, K62, W62, st62⟩ := A60.putF hx (tw159 H.1) Via.refl (a := a1) (List.mem_of_getElem? (i := 0) rfl) (v' := (.int (0 : Int32))) f63 f64 (Or.inl (tw160 H.1)) (tw136 H.1) (ty := .int) (by decide) rfl rfl (g := (mkF m 14 #[vA a1, vA t1, .val .null] [.int 0, (.ref a1)])) rfl rfl (hb hby d12_14)
  have F62 : Fld Z h62 a1 "java/util/TreeMap$PrivateEntryIterator" "expectedModCount" "I" (.int (0 : Int32)) := f63.same W62
  refine Run.st (T62.setTop (mkF m 17 #[vA a1, vA t1, .val .null] [])) st62 ?_
  refine Run.st (T62.setTop (mkF m 19 #[vA a1, vA t1, .val .null] [.null, (.ref a1)])) (fun _ k => XS.aloadN A62.here hx rfl (hb hby d12_17) rfl rfl (XS.aconstNull A62.here hx rfl (hb hby d12_18) k)) ?_
  have f66 := ((F_u3.other W59 (Or.inr (slot_ne (Or.inl (tw162 H.1)) (Or.inr (tw156 H.1)) (by decide) (t := (.object "java/util/TreeMap$Entry")) (t' := (.object "java/util/TreeMap")) (by decide) (by decide)))).other W62 (Or.inr (slot_ne (Or.inl (tw162 H.1)) (Or.inl (tw160 H.1)) (by decide) (t := (.object "java/util/TreeMap$Entry")) (t' := .int) (by decide) (by decide))))
  have f67 := ((E_a1.wr W59).wr W62)
  obtain ⟨T65, h65, A65, K65, W65, st65⟩ := A62.putF hx (tw161 H.1) Via.refl (a := a1) (List.mem_of_getElem? (i := 0) rfl) (v' := .null) f66 f67 (Or.inl (tw162 H.1)) (tw136 H.1) (ty := (.object "java/util/TreeMap$Entry")) (by decide) rfl rfl (g := (mkF m 19 #[vA a1, vA t1, .val .null] [.null, (.ref a1)])) rfl rfl (hb hby d12_19)
  have F65 : Fld Z h65 a1 "java/util/TreeMap$PrivateEntryIterator" "lastReturned" "Ljava/util/TreeMap$Entry;" .null := f66.same W65
  refine Run.st (T65.setTop (mkF m 22 #[vA a1, vA t1, .val .null] [])) st65 ?_
  refine Run.st (T65.setTop (mkF m 24 #[vA a1, vA t1, .val .null] [.null, (.ref a1)])) (fun _ k => XS.aloadN A65.here hx rfl (hb hby d12_22) rfl rfl (XS.aloadN A65.here hx rfl (hb hby d12_23) rfl rfl k)) ?_
  have f69 := (((F_u4.other W59 (Or.inr (slot_ne (Or.inl (tw164 H.1)) (Or.inr (tw156 H.1)) (by decide) (t := (.object "java/util/TreeMap$Entry")) (t' := (.object "java/util/TreeMap")) (by decide) (by decide)))).other W62 (Or.inr (slot_ne (Or.inl (tw164 H.1)) (Or.inl (tw160 H.1)) (by decide) (t := (.object "java/util/TreeMap$Entry")) (t' := .int) (by decide) (by decide)))).other W65 (Or.inr (slot_ne (Or.inl (tw164 H.1)) (Or.inl (tw162 H.1)) (by decide) (t := (.object "java/util/TreeMap$Entry")) (t' := (.object "java/util/TreeMap$Entry")) (by decide) (by decide))))
  have f70 := (((E_a1.wr W59).wr W62).wr W65)
  obtain ⟨T68, h68, A68, K68, W68, st68⟩ := A65.putF hx (tw163 H.1) Via.refl (a := a1) (List.mem_of_getElem? (i := 0) rfl) (v' := .null) f69 f70 (Or.inl (tw164 H.1)) (tw136 H.1) (ty := (.object "java/util/TreeMap$Entry")) (by decide) rfl rfl (g := (mkF m 24 #[vA a1, vA t1, .val .null] [.null, (.ref a1)])) rfl rfl (hb hby d12_24)
  have F68 : Fld Z h68 a1 "java/util/TreeMap$PrivateEntryIterator" "next" "Ljava/util/TreeMap$Entry;" .null := f69.same W68
  refine Run.st (T68.setTop (mkF m 27 #[vA a1, vA t1, .val .null] [])) st68 ?_
  have f71 := ((((E_a1.wr W59).wr W62).wr W65).wr W68)
  exact A68.leaveN hlk none (fun _ => rfl) (by decide) (by decide) ⟨rfl, f71, F68⟩ (fun X hr => X.returnOut hx hrt (hb hby d12_27) hr)
theorem ef_ei (m : MethodId) (y0 : Addr) (y1 : Addr) : entryFrame m #[(.ref y0), (.ref y1), .null] 3 = mkF m 0 #[vA y0, vA y1, .val .null] [] := by first | (simp [entryFrame, mkF, argsToLocals, vI, vA, Value.category, maxLocals]; done) | rfl
def Q_ei (Z : State) (a1 : Addr) (t1 : Addr) (u1 : Value) (u2 : Value) (u3 : Value) (u4 : Value) (h0 : Heap) (v : Option Value) (h : Heap) : Prop := v = none ∧ Exa Z h a1 "java/util/TreeMap$EntryIterator" ∧ Fld Z h a1 "java/util/TreeMap$PrivateEntryIterator" "next" "Ljava/util/TreeMap$Entry;" .null
def rm_ei : Room := { frames := 2, cells := 0, slots := 0, locals := 26 }
set_option maxRecDepth 65536 in
set_option maxHeartbeats 40000000 in
theorem ct_ei {l : Launch} {Z : State} {a0 : Array Value} (H : Ev Z a0) (a1 : Addr) (t1 : Addr) (u1 : Value) (u2 : Value) (u3 : Value) (u4 : Value) {h0 : Heap} {n0 : Nat} (O0 : Old Z n0 h0) (E_a1 : Exa Z h0 a1 "java/util/TreeMap$EntryIterator") (g_a1 : n0 ≤ a1) (z_a1 : a1 < h0.size) (F_u1 : Fld Z h0 a1 "java/util/TreeMap$PrivateEntryIterator" "this$0" "Ljava/util/TreeMap;" u1) (F_u2 : Fld Z h0 a1 "java/util/TreeMap$PrivateEntryIterator" "expectedModCount" "I" u2) (F_u3 : Fld Z h0 a1 "java/util/TreeMap$PrivateEntryIterator" "lastReturned" "Ljava/util/TreeMap$Entry;" u3) (F_u4 : Fld Z h0 a1 "java/util/TreeMap$PrivateEntryIterator" "next" "Ljava/util/TreeMap$Entry;" u4) (E_t1 : Exa Z h0 t1 "java/util/TreeMap") (Fm : Fld Z h0 t1 "java/util/TreeMap" "modCount" "I" (.int (0 : Int32))) : CtrN l Z (⟨"java/util/TreeMap$EntryIterator", "<init>", "(Ljava/util/TreeMap;Ljava/util/TreeMap$Entry;)V"⟩ : MethodName) jdk_2737_method_1_code 3 none [] rm_ei #[(.ref a1), (.ref t1), .null] h0 [a1] n0 (Q_ei Z a1 t1 u1 u2 u3 u4 h0) := by
  refine enterN (a0 := a0) (plainFor_of_name pn_9) O0 (allS ⟨g_a1, z_a1⟩ all0) ?_
  intro p e s m below meth c T0 hx hby hml hrt hnm hlk A0
  replace A0 : Wk false Z a0 [] n0 h0 [a1] "java/util/TreeMap$EntryIterator" p l e rm_ei s m #[(.ref a1), (.ref t1), .null] below meth c [a1] T0 h0 0 0 := A0
  refine Run.st (T0.setTop (mkF m 0 #[vA a1, vA t1, .val .null] [])) (fun _ k => castTop (ef_ei m a1 t1) k) ?_
  refine Run.st (T0.setTop (mkF m 3 #[vA a1, vA t1, .val .null] [.null, (.ref t1), (.ref a1)])) (fun _ k => XS.aloadN A0.here hx rfl (hb hby d13_0) rfl rfl (XS.aloadN A0.here hx rfl (hb hby d13_1) rfl rfl (XS.aloadN A0.here hx rfl (hb hby d13_2) rfl rfl k))) ?_
  obtain ⟨v72, T72, h72, AA72, K72, ⟨L72, Q72⟩, st72⟩ := A0.callI hx (y := (⟨"java/util/TreeMap$PrivateEntryIterator", "<init>", "(Ljava/util/TreeMap;Ljava/util/TreeMap$Entry;)V"⟩ : MethodName)) rfl (tw149 H.1) (tw150 H.1) (tw154 H.1) (by decide) (g := (mkF m 3 #[vA a1, vA t1, .val .null] [.null, (.ref t1), (.ref a1)])) rfl (by rw [hml]; rfl) a1 [(.ref t1), .null] [] (lenOf pd_5 rfl) rfl (Wd := 0) (Nat.le_refl _) (hb hby d13_3) (by decide) (by decide) [a1] (fun _ _ _ q => q.2) (allS (List.mem_of_getElem? (i := 0) rfl) all0) (fun vm0 hZ => payN (ct_pei H a1 t1 u1 u2 u3 u4 A0.old E_a1 (A0.nle (List.mem_of_getElem? (i := 0) rfl)) E_a1.lt F_u1 F_u2 F_u3 F_u4 E_t1 Fm) (tw154 H.1) (tw153 H.1) (by decide) (by decide) hZ)
  obtain ⟨Q72, N72, -⟩ := Q72
  obtain ⟨rfl, Ec72, Ff72⟩ := Q72
  have A72 := AA72 [] all0
  refine Run.st (T72.setTop (mkF m 6 #[vA a1, vA t1, .val .null] [])) st72 ?_
  exact A72.leaveN hlk none (fun _ => rfl) (by decide) (by decide) ⟨rfl, Ec72, Ff72⟩ (fun X hr => X.returnOut hx hrt (hb hby d13_6) hr)
theorem ef_esit (m : MethodId) (y0 : Addr) : entryFrame m #[(.ref y0)] 1 = mkF m 0 #[vA y0] [] := by first | (simp [entryFrame, mkF, argsToLocals, vI, vA, Value.category, maxLocals]; done) | rfl
def Q_esit (Z : State) (a1 : Addr) (t1 : Addr) (h0 : Heap) (v : Option Value) (h : Heap) : Prop := ∃ s1 : Addr, v = some (.ref s1) ∧ Exa Z h s1 "java/util/TreeMap$EntryIterator" ∧ Fld Z h s1 "java/util/TreeMap$PrivateEntryIterator" "next" "Ljava/util/TreeMap$Entry;" .null
def rm_esit : Room := { frames := 3, cells := 1, slots := 4, locals := 41 }
set_option maxRecDepth 65536 in
set_option maxHeartbeats 40000000 in
theorem ct_esit {l : Launch} {Z : State} {a0 : Array Value} (H : Ev Z a0) (a1 : Addr) (t1 : Addr) {h0 : Heap} {n0 : Nat} (O0 : Old Z n0 h0) (F1 : Fld Z h0 a1 "java/util/TreeMap$EntrySet" "this$0" "Ljava/util/TreeMap;" (.ref t1)) (E_t1 : Exa Z h0 t1 "java/util/TreeMap") (Fr : Fld Z h0 t1 "java/util/TreeMap" "root" "Ljava/util/TreeMap$Entry;" .null) (Fm : Fld Z h0 t1 "java/util/TreeMap" "modCount" "I" (.int (0 : Int32))) : CtrN l Z (⟨"java/util/TreeMap$EntrySet", "iterator", "()Ljava/util/Iterator;"⟩ : MethodName) jdk_2738_method_2_code 1 (some (.object "java/util/Iterator")) [] rm_esit #[(.ref a1)] h0 [] n0 (Q_esit Z a1 t1 h0) := by
  refine enterN (a0 := a0) (plainFor_of_name pn_7) O0 all0 ?_
  intro p e s m below meth c T0 hx hby hml hrt hnm hlk A0
  replace A0 : Wk false Z a0 [] n0 h0 [] "java/util/TreeMap$EntrySet" p l e rm_esit s m #[(.ref a1)] below meth c [] T0 h0 0 0 := A0
  refine Run.st (T0.setTop (mkF m 0 #[vA a1] [])) (fun _ k => castTop (ef_esit m a1) k) ?_
  obtain ⟨a73, T73, h73, A73, E73, g73, Ex73, D73, st73⟩ := A0.newO hx (tw135 H.1) (tw136 H.1) (tw137 H.1) (g := (mkF m 0 #[vA a1] [])) rfl (hb hby d14_0) (by decide) (by decide)
  refine Run.st (T73.setTop (mkF m 3 #[vA a1] [(.ref a73)])) st73 ?_
  refine Run.st (T73.setTop (mkF m 5 #[vA a1] [(.ref a1), (.ref a73), (.ref a73)])) (fun _ k => XS.dup A73.here hx rfl (hb hby d14_3) rfl rfl (XS.aloadN A73.here hx rfl (hb hby d14_4) rfl rfl k)) ?_
  have X75 : Ext h0 h73 := E73
  have f76 := F1.ext X75
  obtain ⟨T74, A74, st74⟩ := A73.getF hx (tw111 H.1) Via.refl f76 (g := (mkF m 5 #[vA a1] [(.ref a1), (.ref a73), (.ref a73)])) rfl rfl (hb hby d14_5)
  refine Run.st (T74.setTop (mkF m 8 #[vA a1] [(.ref t1), (.ref a73), (.ref a73)])) st74 ?_
  refine Run.st (T74.setTop (mkF m 9 #[vA a1] [(.ref a1), (.ref t1), (.ref a73), (.ref a73)])) (fun _ k => XS.aloadN A74.here hx rfl (hb hby d14_8) rfl rfl k) ?_
  obtain ⟨T77, A77, st77⟩ := A74.getF hx (tw111 H.1) Via.refl f76 (g := (mkF m 9 #[vA a1] [(.ref a1), (.ref t1), (.ref a73), (.ref a73)])) rfl rfl (hb hby d14_9)
  refine Run.st (T77.setTop (mkF m 12 #[vA a1] [(.ref t1), (.ref t1), (.ref a73), (.ref a73)])) st77 ?_
  have f79 := Fr.ext X75
  have f80 := E_t1.ext X75
  obtain ⟨v78, T78, h78, AA78, K78, ⟨L78, Q78⟩, st78⟩ := A77.callV hx (y := (⟨"java/util/TreeMap", "getFirstEntry", "()Ljava/util/TreeMap$Entry;"⟩ : MethodName)) (z := (⟨"java/util/TreeMap", "getFirstEntry", "()Ljava/util/TreeMap$Entry;"⟩ : MethodName)) (tw138 H.1) (tw139 H.1) (tw141 H.1) (tw140 H.1) (nfSel (tw141 H.1)) (by decide) f80 (g := (mkF m 12 #[vA a1] [(.ref t1), (.ref t1), (.ref a73), (.ref a73)])) rfl (by rw [hml]; rfl) [] [(.ref t1), (.ref a73), (.ref a73)] (lenOf pd_6 rfl) rfl (Wd := 3) (Nat.le_refl _) (hb hby d14_12) (by decide) (by decide) [] (fun _ _ _ q => q.2) all0 (fun vm0 hZ => payN (ct_gfe H t1 A77.old f79) (tw142 H.1) (tw30 H.1) (by decide) (by decide) hZ)
  obtain ⟨Q78, N78, -⟩ := Q78
  obtain ⟨rfl, q78⟩ := Q78
  have q78 := q78.symm
  subst q78
  have A78 := AA78 [] all0
  refine Run.st (T78.setTop (mkF m 15 #[vA a1] [.null, (.ref t1), (.ref a73), (.ref a73)])) st78 ?_
  have F82 : Fld Z h73 a73 "java/util/TreeMap$PrivateEntryIterator" "this$0" "Ljava/util/TreeMap;" .null := D73 (Or.inr (tw156 H.1)) (ty := (.object "java/util/TreeMap")) (by decide)
  have F83 : Fld Z h73 a73 "java/util/TreeMap$PrivateEntryIterator" "expectedModCount" "I" (.int 0) := D73 (Or.inl (tw160 H.1)) (ty := .int) (by decide)
  have F84 : Fld Z h73 a73 "java/util/TreeMap$PrivateEntryIterator" "lastReturned" "Ljava/util/TreeMap$Entry;" .null := D73 (Or.inl (tw162 H.1)) (ty := (.object "java/util/TreeMap$Entry")) (by decide)
  have F85 : Fld Z h73 a73 "java/util/TreeMap$PrivateEntryIterator" "next" "Ljava/util/TreeMap$Entry;" .null := D73 (Or.inl (tw164 H.1)) (ty := (.object "java/util/TreeMap$Entry")) (by decide)
  have f86 := Fm.ext X75
  obtain ⟨v81, T81, h81, AA81, K81, ⟨L81, Q81⟩, st81⟩ := A78.callI hx (y := (⟨"java/util/TreeMap$EntryIterator", "<init>", "(Ljava/util/TreeMap;Ljava/util/TreeMap$Entry;)V"⟩ : MethodName)) rfl (tw145 H.1) (tw146 H.1) (tw148 H.1) (by decide) (g := (mkF m 15 #[vA a1] [.null, (.ref t1), (.ref a73), (.ref a73)])) rfl (by rw [hml]; rfl) a73 [(.ref t1), .null] [(.ref a73)] (lenOf pd_5 rfl) rfl (Wd := 1) (Nat.le_refl _) (hb hby d14_15) (by decide) (by decide) [a73] (fun _ _ _ q => q.2) (allS (List.mem_of_getElem? (i := 0) rfl) all0) (fun vm0 hZ => payN (ct_ei H a73 t1 .null (.int 0) .null .null A78.old Ex73 (A78.nle (List.mem_of_getElem? (i := 0) rfl)) Ex73.lt F82 F83 F84 F85 f80 f86) (tw148 H.1) (tw137 H.1) (by decide) (by decide) hZ)
  obtain ⟨Q81, N81, -⟩ := Q81
  obtain ⟨rfl, Ec81, Ff81⟩ := Q81
  have A81 := AA81 [] all0
  refine Run.st (T81.setTop (mkF m 18 #[vA a1] [(.ref a73)])) st81 ?_
  exact A81.leaveN hlk (some (.ref a73)) (fun q => by rw [hrt] at q; cases q) (by decide) (by decide) ⟨a73, rfl, Ec81, Ff81⟩ (fun X hr => retOut X hx (w := (.ref a73)) (t := (.object "java/util/Iterator")) hrt rfl (Or.inr (Or.inr (Or.inr (Or.inr ⟨rfl, rfl, rfl⟩)))) (hb hby d14_18) hr)
theorem ef_hn (m : MethodId) (y0 : Addr) : entryFrame m #[(.ref y0)] 1 = mkF m 0 #[vA y0] [] := by first | (simp [entryFrame, mkF, argsToLocals, vI, vA, Value.category, maxLocals]; done) | rfl
def Q_hn (Z : State) (a1 : Addr) (h0 : Heap) (v : Option Value) (h : Heap) : Prop := v = some (.int (0 : Int32)) ∧ h = h0
def rm_hn : Room := { frames := 0, cells := 0, slots := 0, locals := 0 }
set_option maxRecDepth 65536 in
set_option maxHeartbeats 40000000 in
theorem ct_hn {l : Launch} {Z : State} {a0 : Array Value} (H : Ev Z a0) (a1 : Addr) {h0 : Heap} {n0 : Nat} (O0 : Old Z n0 h0) (F1 : Fld Z h0 a1 "java/util/TreeMap$PrivateEntryIterator" "next" "Ljava/util/TreeMap$Entry;" .null) : CtrN l Z (⟨"java/util/TreeMap$PrivateEntryIterator", "hasNext", "()Z"⟩ : MethodName) jdk_2750_method_2_code 1 (some .boolean) [] rm_hn #[(.ref a1)] h0 [] n0 (Q_hn Z a1 h0) := by
  refine enterN (a0 := a0) (plainFor_of_name pn_8) O0 all0 ?_
  intro p e s m below meth c T0 hx hby hml hrt hnm hlk A0
  replace A0 : Wk false Z a0 [] n0 h0 [] "java/util/TreeMap$PrivateEntryIterator" p l e rm_hn s m #[(.ref a1)] below meth c [] T0 h0 0 0 := A0
  refine Run.st (T0.setTop (mkF m 0 #[vA a1] [])) (fun _ k => castTop (ef_hn m a1) k) ?_
  refine Run.st (T0.setTop (mkF m 1 #[vA a1] [(.ref a1)])) (fun _ k => XS.aloadN A0.here hx rfl (hb hby d15_0) rfl rfl k) ?_
  obtain ⟨T87, A87, st87⟩ := A0.getF hx (tw163 H.1) Via.refl F1 (g := (mkF m 1 #[vA a1] [(.ref a1)])) rfl rfl (hb hby d15_1)
  refine Run.st (T87.setTop (mkF m 4 #[vA a1] [.null])) st87 ?_
  refine Run.st (T87.setTop (mkF m 12 #[vA a1] [.int 0])) (fun _ k => XS.ifnullYes A87.here hx rfl (pc0 := 4) (pc' := 11) rfl (hb hby d15_4) rfl (by decide) (by decide) (XS.iconst A87.here hx rfl (hb hby d15_11) k)) ?_
  exact A87.leaveN hlk (some (.int (0 : Int32))) (fun q => by rw [hrt] at q; cases q) (by decide) (by decide) ⟨rfl, rfl⟩ (fun X hr => retN X hx (t := .boolean) hrt (by simp) (hb hby d15_12) hr)
theorem ef_fe (m : MethodId) (y0 : Addr) (y1 : Addr) : entryFrame m #[(.ref y0), (.ref y1)] 7 = mkF m 0 #[vA y0, vA y1, .unset, .unset, .unset, .unset, .unset] [] := by first | (simp [entryFrame, mkF, argsToLocals, vI, vA, Value.category, maxLocals]; done) | rfl
def Q_fe (Z : State) (a1 : Addr) (b1 : Addr) (t1 : Addr) (h0 : Heap) (v : Option Value) (h : Heap) : Prop := v = none
def rm_fe : Room := { frames := 6, cells := 2, slots := 5, locals := 76 }
set_option maxRecDepth 65536 in
set_option maxHeartbeats 40000000 in
theorem ct_fe {l : Launch} {Z : State} {a0 : Array Value} (H : Ev Z a0) (a1 : Addr) (b1 : Addr) (t1 : Addr) {h0 : Heap} {n0 : Nat} (O0 : Old Z n0 h0) (E_a1 : Exa Z h0 a1 "com/example/gate_to_handlers/gatetohandlers/HttpHeaders") (F1 : Fld Z h0 a1 "com/example/gate_to_handlers/gatetohandlers/HttpHeaders" "fields" "Ljava/util/Map;" (.ref t1)) (E_t1 : Exa Z h0 t1 "java/util/TreeMap") (Fr_t1 : Fld Z h0 t1 "java/util/TreeMap" "root" "Ljava/util/TreeMap$Entry;" .null) (Fe_t1 : Fld Z h0 t1 "java/util/TreeMap" "entrySet" "Ljava/util/TreeMap$EntrySet;" .null) (Fm_t1 : Fld Z h0 t1 "java/util/TreeMap" "modCount" "I" (.int (0 : Int32))) (g_t1 : n0 ≤ t1) (z_t1 : t1 < h0.size) : CtrU l Z (⟨"java/util/Map", "forEach", "(Ljava/util/function/BiConsumer;)V"⟩ : MethodName) jdk_72_method_16_code 7 none  rm_fe #[(.ref a1), (.ref b1)] h0 [t1] n0 (Q_fe Z a1 b1 t1 h0) := by
  refine enterU (a0 := a0)  O0 (allS ⟨g_t1, z_t1⟩ all0) ?_
  intro p e s m below meth c T0 hx hby hml hrt hnm hlk A0
  replace A0 : Wk false Z a0 [] n0 h0 [t1] "java/util/Map" p l e rm_fe s m #[(.ref a1), (.ref b1)] below meth c [t1] T0 h0 0 0 := A0
  refine Run.st (T0.setTop (mkF m 0 #[vA a1, vA b1, .unset, .unset, .unset, .unset, .unset] [])) (fun _ k => castTop (ef_fe m a1 b1) k) ?_
  refine Run.st (T0.setTop (mkF m 1 #[vA a1, vA b1, .unset, .unset, .unset, .unset, .unset] [(.ref b1)])) (fun _ k => XS.aloadN A0.here hx rfl (hb hby d16_0) rfl rfl k) ?_
  obtain ⟨v88, T88, h88, AA88, K88, ⟨L88, Q88⟩, st88⟩ := A0.callS hx (tw83 H.1) (tw84 H.1) (tw85 H.1) (tw86 H.1) (by decide) (g := (mkF m 1 #[vA a1, vA b1, .unset, .unset, .unset, .unset, .unset] [(.ref b1)])) rfl (by rw [hml]; rfl) [(.ref b1)] [] (lenOf pd_7 rfl) rfl (Wd := 0) (Nat.le_refl _) (hb hby d16_1) (by decide) (by decide) [] (fun _ _ _ q => q.2) all0 (fun vm0 hZ => payN (ct_rnn H b1 A0.old) (tw86 H.1) (tw85 H.1) (by decide) (by decide) hZ)
  obtain ⟨Q88, N88, -⟩ := Q88
  obtain ⟨rfl, q88⟩ := Q88
  have q88 := q88.symm
  subst q88
  have A88 := AA88 [] all0
  refine Run.st (T88.setTop (mkF m 4 #[vA a1, vA b1, .unset, .unset, .unset, .unset, .unset] [(.ref b1)])) st88 ?_
  refine Run.st (T88.setTop (mkF m 6 #[vA a1, vA b1, .unset, .unset, .unset, .unset, .unset] [(.ref a1)])) (fun _ k => XS.pop A88.here hx rfl (hb hby d16_4) rfl rfl (XS.aloadN A88.here hx rfl (hb hby d16_5) rfl rfl k)) ?_
  obtain ⟨v89, T89, h89, AA89, K89, ⟨L89, Q89⟩, st89⟩ := A88.callF hx (y := (⟨"java/util/Map", "entrySet", "()Ljava/util/Set;"⟩ : MethodName)) (z := (⟨"com/example/gate_to_handlers/gatetohandlers/HttpHeaders", "entrySet", "()Ljava/util/Set;"⟩ : MethodName)) (tw87 H.1) (tw88 H.1) (tw89 H.1) (tw90 H.1) (tw91 H.1) (tw92 H.1) (tw93 H.1) (tw81 H.1) (by decide) E_a1 (g := (mkF m 6 #[vA a1, vA b1, .unset, .unset, .unset, .unset, .unset] [(.ref a1)])) rfl (by rw [hml]; rfl) [] [] (lenOf pd_4 rfl) rfl (Wd := 0) (Nat.le_refl _) (hb hby d16_6) (by decide) (by decide) [t1] (fun _ _ _ q => q.2) (allS (List.mem_of_getElem? (i := 0) rfl) all0) (fun vm0 hZ => payN (ct_hhes H a1 t1 A88.old F1 E_t1 Fr_t1 Fe_t1 Fm_t1 (A88.nle (List.mem_of_getElem? (i := 0) rfl)) E_t1.lt) (tw94 H.1) (tw24 H.1) (by decide) (by decide) hZ)
  obtain ⟨Q89, N89, -⟩ := Q89
  obtain ⟨s89, rfl, gt89, Ec89, Ff89, Tq89⟩ := Q89
  obtain ⟨Te89, Tr89, Tm89⟩ := Tq89
  have A89 := AA89 [s89] (allS (Or.inr gt89) all0)
  refine Run.st (T89.setTop (mkF m 11 #[vA a1, vA b1, .unset, .unset, .unset, .unset, .unset] [(.ref s89)])) st89 ?_
  obtain ⟨v90, T90, h90, AA90, K90, ⟨L90, Q90⟩, st90⟩ := A89.callF hx (y := (⟨"java/util/Set", "iterator", "()Ljava/util/Iterator;"⟩ : MethodName)) (z := (⟨"java/util/TreeMap$EntrySet", "iterator", "()Ljava/util/Iterator;"⟩ : MethodName)) (tw126 H.1) (tw127 H.1) (tw128 H.1) (tw129 H.1) (tw130 H.1) (tw131 H.1) (tw132 H.1) (tw133 H.1) (by decide) Ec89 (g := (mkF m 11 #[vA a1, vA b1, .unset, .unset, .unset, .unset, .unset] [(.ref s89)])) rfl (by rw [hml]; rfl) [] [] (lenOf pd_8 rfl) rfl (Wd := 0) (Nat.le_refl _) (hb hby d16_11) (by decide) (by decide) [] (fun _ _ _ q => q.2) all0 (fun vm0 hZ => payN (ct_esit H s89 t1 A89.old Ff89 Te89 Tr89 Tm89) (tw134 H.1) (tw106 H.1) (by decide) (by decide) hZ)
  obtain ⟨Q90, N90, -⟩ := Q90
  obtain ⟨s90, rfl, Ec90, Ff90⟩ := Q90
  have A90 := AA90 [] all0
  refine Run.st (T90.setTop (mkF m 16 #[vA a1, vA b1, .unset, .unset, .unset, .unset, .unset] [(.ref s90)])) st90 ?_
  refine Run.st (T90.setTop (mkF m 18 #[vA a1, vA b1, vA s90, .unset, .unset, .unset, .unset] [(.ref s90)])) (fun _ k => XS.astoreN A90.here hx rfl (hb hby d16_16) rfl rfl (l' := #[vA a1, vA b1, vA s90, .unset, .unset, .unset, .unset]) rfl (XS.aloadN A90.here hx rfl (hb hby d16_17) rfl rfl k)) ?_
  obtain ⟨v91, T91, h91, AA91, K91, ⟨L91, Q91⟩, st91⟩ := A90.callF hx (y := (⟨"java/util/Iterator", "hasNext", "()Z"⟩ : MethodName)) (z := (⟨"java/util/TreeMap$PrivateEntryIterator", "hasNext", "()Z"⟩ : MethodName)) (tw165 H.1) (tw166 H.1) (tw167 H.1) (tw168 H.1) (tw169 H.1) (tw170 H.1) (tw171 H.1) (tw172 H.1) (by decide) Ec90 (g := (mkF m 18 #[vA a1, vA b1, vA s90, .unset, .unset, .unset, .unset] [(.ref s90)])) rfl (by rw [hml]; rfl) [] [] (lenOf pd_9 rfl) rfl (Wd := 0) (Nat.le_refl _) (hb hby d16_18) (by decide) (by decide) [] (fun _ _ _ q => q.2) all0 (fun vm0 hZ => payN (ct_hn H s90 A90.old Ff90) (tw173 H.1) (tw153 H.1) (by decide) (by decide) hZ)
  obtain ⟨Q91, N91, -⟩ := Q91
  obtain ⟨rfl, q91⟩ := Q91
  have q91 := q91.symm
  subst q91
  have A91 := AA91 [] all0
  refine Run.st (T91.setTop (mkF m 23 #[vA a1, vA b1, vA s90, .unset, .unset, .unset, .unset] [.int 0])) st91 ?_
  refine Run.st (T91.setTop (mkF m 80 #[vA a1, vA b1, vA s90, .unset, .unset, .unset, .unset] [])) (fun _ k => XS.ifYes A91.here hx rfl (pc0 := 23) (pc' := 80) rfl (hb hby d16_23) rfl (by decide) (by decide) (by decide) k) ?_
  exact A91.leaveN hlk none (fun _ => rfl) (by decide) (by decide) rfl (fun X hr => X.returnOut hx hrt (hb hby d16_80) hr)
theorem ef_um (m : MethodId) (y0 : Addr) : entryFrame m #[(.ref y0)] 1 = mkF m 0 #[vA y0] [] := by first | (simp [entryFrame, mkF, argsToLocals, vI, vA, Value.category, maxLocals]; done) | rfl
def Q_um (Z : State) (b1 : Addr) (h0 : Heap) (v : Option Value) (h : Heap) : Prop := ∃ r : Addr, v = some (.ref r)
def rm_um : Room := { frames := 2, cells := 1, slots := 4, locals := 26 }
set_option maxRecDepth 65536 in
set_option maxHeartbeats 40000000 in
theorem ct_um {l : Launch} {Z : State} {a0 : Array Value} (H : Ev Z a0) (b1 : Addr) {h0 : Heap} {n0 : Nat} (O0 : Old Z n0 h0) (E_b1 : Exa Z h0 b1 "java/util/TreeMap") : CtrN l Z (⟨"java/util/Collections", "unmodifiableMap", "(Ljava/util/Map;)Ljava/util/Map;"⟩ : MethodName) jdk_79_method_36_code 1 (some (.object "java/util/Map")) [] rm_um #[(.ref b1)] h0 [] n0 (Q_um Z b1 h0) := by
  refine enterN (a0 := a0) (plainFor_of_name pn_10) O0 all0 ?_
  intro p e s m below meth c T0 hx hby hml hrt hnm hlk A0
  replace A0 : Wk false Z a0 [] n0 h0 [] "java/util/Collections" p l e rm_um s m #[(.ref b1)] below meth c [] T0 h0 0 0 := A0
  refine Run.st (T0.setTop (mkF m 0 #[vA b1] [])) (fun _ k => castTop (ef_um m b1) k) ?_
  obtain ⟨mT, MT⟩ := H.2.2.2.2.1
  obtain ⟨mU, MU⟩ := H.2.2.2.2.2
  refine Run.st (T0.setTop (mkF m 1 #[vA b1] [(.ref b1)])) (fun _ k => XS.aloadN A0.here hx rfl (hb hby d17_0) rfl rfl k) ?_
  obtain ⟨T92, A92, st92⟩ := A0.gclsI hx (xi := (⟨"java/util/Map", "getClass", "()Ljava/lang/Class;"⟩ : MethodName)) (tw179 H.1) (tw180 H.1) (tw181 H.1) (tw182 H.1) (tw183 H.1) (tw184 H.1) (tw185 H.1) (tw100 H.1) (tw186 H.1) (by decide) (by decide) rfl rfl E_b1 MT (g := (mkF m 1 #[vA b1] [(.ref b1)])) rfl (by rw [hml]; rfl) rfl (hb hby d17_1) (by decide) (Wd := 0) (Nat.le_refl _) (by decide +kernel)
  refine Run.st (T92.setTop (mkF m 6 #[vA b1] [(.ref mT)])) st92 ?_
  obtain ⟨T93, A93, st93⟩ := A92.ldcK hx (tw188 H.1) MU (g := (mkF m 6 #[vA b1] [(.ref mT)])) rfl (hb hby d17_6)
  refine Run.st (T93.setTop (mkF m 8 #[vA b1] [(.ref mU), (.ref mT)])) st93 ?_
  by_cases c94 : mT = mU
  · refine Run.st (T93.setTop (mkF m 12 #[vA b1] [(.ref b1)])) (fun _ k => XT.acmpNo A93.here hx rfl (hb hby d17_8) rfl rfl rfl (by simp [XT.acmp, c94]) (XS.aloadN A93.here hx rfl (hb hby d17_11) rfl rfl k)) ?_
    exact A93.leaveN hlk (some (.ref b1)) (fun q => by rw [hrt] at q; cases q) (by decide) (by decide) ⟨_, rfl⟩ (fun X hr => retOut X hx (w := (.ref b1)) (t := (.object "java/util/Map")) hrt rfl (Or.inr (Or.inr (Or.inr (Or.inr ⟨rfl, rfl, rfl⟩)))) (hb hby d17_12) hr)
  · refine Run.st (T93.setTop (mkF m 13 #[vA b1] [])) (fun _ k => XT.acmpYes A93.here hx rfl (pc0 := 8) (pc' := 13) rfl (hb hby d17_8) rfl rfl rfl (by simp [XT.acmp, c94]) (by decide) (by decide) k) ?_
    obtain ⟨a95, T95, h95, A95, E95, g95, Ex95, D95, st95⟩ := A93.newO hx (tw188 H.1) (tw190 H.1) (tw191 H.1) (g := (mkF m 13 #[vA b1] [])) rfl (hb hby d17_13) (by decide) (by decide)
    refine Run.st (T95.setTop (mkF m 16 #[vA b1] [(.ref a95)])) st95 ?_
    refine Run.st (T95.setTop (mkF m 18 #[vA b1] [(.ref b1), (.ref a95), (.ref a95)])) (fun _ k => XS.dup A95.here hx rfl (hb hby d17_16) rfl rfl (XS.aloadN A95.here hx rfl (hb hby d17_17) rfl rfl k)) ?_
    have F97 : Fld Z h95 a95 "java/util/Collections$UnmodifiableMap" "m" "Ljava/util/Map;" .null := D95 (Or.inr (tw197 H.1)) (ty := (.object "java/util/Map")) (by decide)
    obtain ⟨v96, T96, h96, AA96, K96, ⟨L96, Q96⟩, st96⟩ := A95.callI hx (y := (⟨"java/util/Collections$UnmodifiableMap", "<init>", "(Ljava/util/Map;)V"⟩ : MethodName)) rfl (tw192 H.1) (tw193 H.1) (tw194 H.1) (by decide) (g := (mkF m 18 #[vA b1] [(.ref b1), (.ref a95), (.ref a95)])) rfl (by rw [hml]; rfl) a95 [(.ref b1)] [(.ref a95)] (lenOf pd_2 rfl) rfl (Wd := 1) (Nat.le_refl _) (hb hby d17_18) (by decide) (by decide) [a95] (fun _ _ _ q => q.2) (allS (List.mem_of_getElem? (i := 0) rfl) all0) (fun vm0 hZ => payN (ct_umi H a95 b1 .null A95.old Ex95 (A95.nle (List.mem_of_getElem? (i := 0) rfl)) Ex95.lt F97) (tw194 H.1) (tw191 H.1) (by decide) (by decide) hZ)
    obtain ⟨Q96, N96, -⟩ := Q96
    obtain ⟨rfl, Ec96, Fc96_m⟩ := Q96
    have A96 := AA96 [] all0
    refine Run.st (T96.setTop (mkF m 21 #[vA b1] [(.ref a95)])) st96 ?_
    exact A96.leaveN hlk (some (.ref a95)) (fun q => by rw [hrt] at q; cases q) (by decide) (by decide) ⟨_, rfl⟩ (fun X hr => retOut X hx (w := (.ref a95)) (t := (.object "java/util/Map")) hrt rfl (Or.inr (Or.inr (Or.inr (Or.inr ⟨rfl, rfl, rfl⟩)))) (hb hby d17_21) hr)
theorem ef_ro (m : MethodId) (y0 : Addr) : entryFrame m #[(.ref y0)] 2 = mkF m 0 #[vA y0, .unset] [] := by first | (simp [entryFrame, mkF, argsToLocals, vI, vA, Value.category, maxLocals]; done) | rfl
def Q_ro (Z : State) (a1 : Addr) (t1 : Addr) (h0 : Heap) (v : Option Value) (h : Heap) : Prop := ∃ r : Addr, v = some (.ref r)
def rm_ro : Room := { frames := 7, cells := 6, slots := 20, locals := 3074 }
set_option maxRecDepth 65536 in
set_option maxHeartbeats 40000000 in
theorem ct_ro {l : Launch} {Z : State} {a0 : Array Value} (H : Ev Z a0) (a1 : Addr) (t1 : Addr) {h0 : Heap} {n0 : Nat} (O0 : Old Z n0 h0) (E_a1 : Exa Z h0 a1 "com/example/gate_to_handlers/gatetohandlers/HttpHeaders") (F1 : Fld Z h0 a1 "com/example/gate_to_handlers/gatetohandlers/HttpHeaders" "fields" "Ljava/util/Map;" (.ref t1)) (E_t1 : Exa Z h0 t1 "java/util/TreeMap") (Fr_t1 : Fld Z h0 t1 "java/util/TreeMap" "root" "Ljava/util/TreeMap$Entry;" .null) (Fe_t1 : Fld Z h0 t1 "java/util/TreeMap" "entrySet" "Ljava/util/TreeMap$EntrySet;" .null) (Fm_t1 : Fld Z h0 t1 "java/util/TreeMap" "modCount" "I" (.int (0 : Int32))) (g_t1 : n0 ≤ t1) (z_t1 : t1 < h0.size) : CtrN l Z (⟨"com/example/gate_to_handlers/gatetohandlers/HttpHeaders", "readOnly", "(Lcom/example/gate_to_handlers/gatetohandlers/HttpHeaders;)Lcom/example/gate_to_handlers/gatetohandlers/HttpHeaders;"⟩ : MethodName) prog_58_method_3_code 2 (some (.object "com/example/gate_to_handlers/gatetohandlers/HttpHeaders")) [] rm_ro #[(.ref a1)] h0 [t1] n0 (Q_ro Z a1 t1 h0) := by
  refine enterNN (a0 := a0) (plainFor_of_name pn_5) O0 (allS ⟨g_t1, z_t1⟩ all0) ?_
  intro p e s m below meth c T0 hx hby hml hrt hnm hlk A0 hmn
  replace A0 : Wk false Z a0 [] n0 h0 [t1] "com/example/gate_to_handlers/gatetohandlers/HttpHeaders" p l e rm_ro s m #[(.ref a1)] below meth c [t1] T0 h0 0 0 := A0
  refine Run.st (T0.setTop (mkF m 0 #[vA a1, .unset] [])) (fun _ k => castTop (ef_ro m a1) k) ?_
  obtain ⟨fc, Sc, rc⟩ := H.2.2.2.1
  obtain ⟨a98, T98, h98, A98, E98, g98, Ex98, D98, st98⟩ := A0.newO hx (tw28 H.1) (tw29 H.1) (tw30 H.1) (g := (mkF m 0 #[vA a1, .unset] [])) rfl (hb hby d18_0) (by decide) (by decide)
  refine Run.st (T98.setTop (mkF m 3 #[vA a1, .unset] [(.ref a98)])) st98 ?_
  refine Run.st (T98.setTop (mkF m 4 #[vA a1, .unset] [(.ref a98), (.ref a98)])) (fun _ k => XS.dup A98.here hx rfl (hb hby d18_3) rfl rfl k) ?_
  obtain ⟨T99, A99, st99⟩ := A98.getS hx (tw31 H.1) Via.refl (Sc.ext A98.old.2) (g := (mkF m 4 #[vA a1, .unset] [(.ref a98), (.ref a98)])) rfl (hb hby d18_4)
  refine Run.st (T99.setTop (mkF m 7 #[vA a1, .unset] [fc, (.ref a98), (.ref a98)])) st99 ?_
  have F101 : Fld Z h98 a98 "java/util/TreeMap" "size" "I" (.int 0) := D98 (Or.inl (tw43 H.1)) (ty := .int) (by decide)
  have F102 : Fld Z h98 a98 "java/util/TreeMap" "modCount" "I" (.int 0) := D98 (Or.inl (tw45 H.1)) (ty := .int) (by decide)
  have F103 : Fld Z h98 a98 "java/util/TreeMap" "comparator" "Ljava/util/Comparator;" .null := D98 (Or.inr (tw47 H.1)) (ty := (.object "java/util/Comparator")) (by decide)
  have F104 : Fld Z h98 a98 "java/util/TreeMap" "root" "Ljava/util/TreeMap$Entry;" .null := D98 (Or.inl (tw144 H.1)) (ty := (.object "java/util/TreeMap$Entry")) (by decide)
  have F105 : Fld Z h98 a98 "java/util/TreeMap" "entrySet" "Ljava/util/TreeMap$EntrySet;" .null := D98 (Or.inl (tw103 H.1)) (ty := (.object "java/util/TreeMap$EntrySet")) (by decide)
  obtain ⟨v100, T100, h100, AA100, K100, ⟨L100, Q100⟩, st100⟩ := A99.callI hx (y := (⟨"java/util/TreeMap", "<init>", "(Ljava/util/Comparator;)V"⟩ : MethodName)) rfl (tw32 H.1) (tw33 H.1) (tw34 H.1) (by decide) (g := (mkF m 7 #[vA a1, .unset] [fc, (.ref a98), (.ref a98)])) rfl (by rw [hml]; rfl) a98 [fc] [(.ref a98)] (lenOf pd_1 rfl) rfl (Wd := 1) (Nat.le_refl _) (hb hby d18_7) (by decide) (by decide) [a98] (fun _ _ _ q => q.2) (allS (List.mem_of_getElem? (i := 0) rfl) all0) (fun vm0 hZ => payN (ct_tmi H a98 fc (.int 0) (.int 0) .null A99.old Ex98 (A99.nle (List.mem_of_getElem? (i := 0) rfl)) Ex98.lt F104 F105 F101 F102 F103 rc) (tw34 H.1) (tw30 H.1) (by decide) (by decide) hZ)
  obtain ⟨Q100, N100, -⟩ := Q100
  obtain ⟨rfl, Tq100⟩ := Q100
  obtain ⟨Te100, Tr100, Ts100, Tm100⟩ := Tq100
  have A100 := AA100 [] all0
  refine Run.st (T100.setTop (mkF m 10 #[vA a1, .unset] [(.ref a98)])) st100 ?_
  refine Run.st (T100.setTop (mkF m 13 #[vA a1, vA a98] [(.ref a98), (.ref a1)])) (fun _ k => XS.astoreN A100.here hx rfl (hb hby d18_10) rfl rfl (l' := #[vA a1, vA a98]) rfl (XS.aloadN A100.here hx rfl (hb hby d18_11) rfl rfl (XS.aloadN A100.here hx rfl (hb hby d18_12) rfl rfl k))) ?_
  obtain ⟨a106, T106, h106, A106, E106, g106, st106⟩ := A100.lam hx (x := (⟨"com/example/gate_to_handlers/gatetohandlers/HttpHeaders", "readOnly", "(Lcom/example/gate_to_handlers/gatetohandlers/HttpHeaders;)Lcom/example/gate_to_handlers/gatetohandlers/HttpHeaders;"⟩ : MethodName)) (pc := 13) (index := 27) (fi := 15) (σ := sg) hmn (tw71 H.1) (List.cons_ne_nil _ _) capK (tw74 H.1) (g := (mkF m 13 #[vA a1, vA a98] [(.ref a98), (.ref a1)])) rfl rfl (by rw [hml]; rfl) (hb hby d18_13) (v := (.ref a98)) (rest := [(.ref a1)]) rfl rfl capFit (Wd := 2) (Nat.le_refl _) (by decide) (by decide) (by decide)
  refine Run.st (T106.setTop (mkF m 18 #[vA a1, vA a98] [(.ref a106), (.ref a1)])) st106 ?_
  have X108 : Ext h0 h98 := E98
  have X109 : Ext h0 h100 := extK X108 K100 (allS (Nat.le_of_eq g98) all0)
  have X110 : Ext h0 h106 := (extT X109 E106)
  have f111 := F1.ext X110
  have f112 := E_t1.ext X110
  have f113 := Fr_t1.ext X110
  have f114 := Fe_t1.ext X110
  have f115 := Fm_t1.ext X110
  have f116 := E_a1.ext X110
  obtain ⟨v107, T107, h107, AA107, K107, ⟨L107, Q107⟩, st107⟩ := A106.callVD hx (y := (⟨"com/example/gate_to_handlers/gatetohandlers/HttpHeaders", "forEach", "(Ljava/util/function/BiConsumer;)V"⟩ : MethodName)) (z := (⟨"java/util/Map", "forEach", "(Ljava/util/function/BiConsumer;)V"⟩ : MethodName)) (owner := "java/util/Map") (tw75 H.1) (tw76 H.1) (tw77 H.1) (by decide) (tw79 H.1) (tw78 H.1) f116 (g := (mkF m 18 #[vA a1, vA a98] [(.ref a106), (.ref a1)])) rfl (by rw [hml]; rfl) [(.ref a106)] [] (lenOf pd_10 rfl) rfl (Wd := 0) (Nat.le_refl _) (hb hby d18_18) (by decide) (by decide) [t1] (fun _ _ _ q => q.2) (allS (List.mem_of_getElem? (i := 2) rfl) all0) (fun vm0 hZ => payU (ct_fe H a1 a106 t1 A106.old f116 f111 f112 f113 f114 f115 (A106.nle (List.mem_of_getElem? (i := 2) rfl)) f112.lt) (plainFor_of_name pn_11) (tw82 H.1) (by decide) (by decide) hZ)
  obtain ⟨Q107, N107, -⟩ := Q107
  cases Q107
  have A107 := AA107 [] all0
  refine Run.st (T107.setTop (mkF m 21 #[vA a1, vA a98] [])) st107 ?_
  obtain ⟨a117, T117, h117, A117, E117, g117, Ex117, D117, st117⟩ := A107.newO hx (tw174 H.1) (tw23 H.1) (tw24 H.1) (g := (mkF m 21 #[vA a1, vA a98] [])) rfl (hb hby d18_21) (by decide) (by decide)
  refine Run.st (T117.setTop (mkF m 24 #[vA a1, vA a98] [(.ref a117)])) st117 ?_
  refine Run.st (T117.setTop (mkF m 26 #[vA a1, vA a98] [(.ref a98), (.ref a117), (.ref a117)])) (fun _ k => XS.dup A117.here hx rfl (hb hby d18_24) rfl rfl (XS.aloadN A117.here hx rfl (hb hby d18_25) rfl rfl k)) ?_
  have f119 := (((Te100.ext E106).keep K107).ext E117)
  obtain ⟨v118, T118, h118, AA118, K118, ⟨L118, Q118⟩, st118⟩ := A117.callS hx (tw175 H.1) (tw176 H.1) (tw177 H.1) (tw178 H.1) (by decide) (g := (mkF m 26 #[vA a1, vA a98] [(.ref a98), (.ref a117), (.ref a117)])) rfl (by rw [hml]; rfl) [(.ref a98)] [(.ref a117), (.ref a117)] (lenOf pd_11 rfl) rfl (Wd := 2) (Nat.le_refl _) (hb hby d18_26) (by decide) (by decide) [] (fun _ _ _ q => q.2) all0 (fun vm0 hZ => payN (ct_um H a98 A117.old f119) (tw178 H.1) (tw177 H.1) (by decide) (by decide) hZ)
  obtain ⟨Q118, N118, -⟩ := Q118
  obtain ⟨r118, rfl⟩ := Q118
  have A118 := AA118 [] all0
  refine Run.st (T118.setTop (mkF m 29 #[vA a1, vA a98] [(.ref r118), (.ref a117), (.ref a117)])) st118 ?_
  have F121 : Fld Z h117 a117 "com/example/gate_to_handlers/gatetohandlers/HttpHeaders" "fields" "Ljava/util/Map;" .null := D117 (Or.inr (tw53 H.1)) (ty := (.object "java/util/Map")) (by decide)
  have X122 : Ext h117 h118 := extK (extR h117) K118 all0
  have f123 := Ex117.ext X122
  have f124 := F121.ext X122
  obtain ⟨v120, T120, h120, AA120, K120, ⟨L120, Q120⟩, st120⟩ := A118.callI hx (y := (⟨"com/example/gate_to_handlers/gatetohandlers/HttpHeaders", "<init>", "(Ljava/util/Map;)V"⟩ : MethodName)) rfl (tw48 H.1) (tw49 H.1) (tw50 H.1) (by decide) (g := (mkF m 29 #[vA a1, vA a98] [(.ref r118), (.ref a117), (.ref a117)])) rfl (by rw [hml]; rfl) a117 [(.ref r118)] [(.ref a117)] (lenOf pd_2 rfl) rfl (Wd := 1) (Nat.le_refl _) (hb hby d18_29) (by decide) (by decide) [a117] (fun _ _ _ q => q.2) (allS (List.mem_of_getElem? (i := 0) rfl) all0) (fun vm0 hZ => payN (ct_hhm H a117 r118 .null A118.old f123 (A118.nle (List.mem_of_getElem? (i := 0) rfl)) f123.lt f124) (tw50 H.1) (tw24 H.1) (by decide) (by decide) hZ)
  obtain ⟨Q120, N120, -⟩ := Q120
  obtain ⟨rfl, Ec120, Fc120_fields⟩ := Q120
  have A120 := AA120 [] all0
  refine Run.st (T120.setTop (mkF m 32 #[vA a1, vA a98] [(.ref a117)])) st120 ?_
  exact A120.leaveN hlk (some (.ref a117)) (fun q => by rw [hrt] at q; cases q) (by decide) (by decide) ⟨_, rfl⟩ (fun X hr => retOut X hx (w := (.ref a117)) (t := (.object "com/example/gate_to_handlers/gatetohandlers/HttpHeaders")) hrt rfl (Or.inr (Or.inr (Or.inr (Or.inr ⟨rfl, rfl, rfl⟩)))) (hb hby d18_32) hr)
theorem ef_hen (m : MethodId) (y0 : Addr) (y1 : Value) (c_y1 : y1.category = 1) : entryFrame m #[(.ref y0), y1, .null] 3 = mkF m 0 #[vA y0, .val y1, .val .null] [] := by first | (simp [entryFrame, mkF, argsToLocals, vI, vA, cat_r, cat_i, cat_l, cat_n, maxLocals, c_y1]; done) | rfl
def Q_hen (Z : State) (a1 : Addr) (u1 : Value) (u2 : Value) (w1 : Value) (h0 : Heap) (v : Option Value) (h : Heap) : Prop := v = none ∧ Exa Z h a1 "com/example/gate_to_handlers/gatetohandlers/HttpEntity" ∧ Fld Z h a1 "com/example/gate_to_handlers/gatetohandlers/HttpEntity" "body" "Ljava/lang/Object;" w1
def rm_hen : Room := { frames := 8, cells := 8, slots := 30, locals := 3088 }
set_option maxRecDepth 65536 in
set_option maxHeartbeats 40000000 in
theorem ct_hen {l : Launch} {Z : State} {a0 : Array Value} (H : Ev Z a0) (a1 : Addr) (u1 : Value) (u2 : Value) (w1 : Value) {h0 : Heap} {n0 : Nat} (O0 : Old Z n0 h0) (E_a1 : Exa Z h0 a1 "com/example/gate_to_handlers/gatetohandlers/HttpEntity") (g_a1 : n0 ≤ a1) (z_a1 : a1 < h0.size) (F_b : Fld Z h0 a1 "com/example/gate_to_handlers/gatetohandlers/HttpEntity" "body" "Ljava/lang/Object;" u1) (F_h : Fld Z h0 a1 "com/example/gate_to_handlers/gatetohandlers/HttpEntity" "headers" "Lcom/example/gate_to_handlers/gatetohandlers/HttpHeaders;" u2) (r1 : w1.isRef = true) : CtrN l Z (⟨"com/example/gate_to_handlers/gatetohandlers/HttpEntity", "<init>", "(Ljava/lang/Object;Lcom/example/gate_to_handlers/gatetohandlers/HttpHeaders;)V"⟩ : MethodName) prog_56_method_4_code 3 none [] rm_hen #[(.ref a1), w1, .null] h0 [a1] n0 (Q_hen Z a1 u1 u2 w1 h0) := by
  refine enterN (a0 := a0) (plainFor_of_name pn_12) O0 (allS ⟨g_a1, z_a1⟩ all0) ?_
  intro p e s m below meth c T0 hx hby hml hrt hnm hlk A0
  replace A0 : Wk false Z a0 [] n0 h0 [a1] "com/example/gate_to_handlers/gatetohandlers/HttpEntity" p l e rm_hen s m #[(.ref a1), w1, .null] below meth c [a1] T0 h0 0 0 := A0
  refine Run.st (T0.setTop (mkF m 0 #[vA a1, .val w1, .val .null] [])) (fun _ k => castTop (ef_hen m a1 w1 (catR r1)) k) ?_
  refine Run.st (T0.setTop (mkF m 1 #[vA a1, .val w1, .val .null] [(.ref a1)])) (fun _ k => XS.aloadN A0.here hx rfl (hb hby d19_0) rfl rfl k) ?_
  obtain ⟨T125, A125, st125⟩ := A0.initO hx (tw63 H.1) (tw12 H.1) (tw13 H.1) (g := (mkF m 1 #[vA a1, .val w1, .val .null] [(.ref a1)])) rfl (by rw [hml]; rfl) rfl (hb hby d19_1) (by decide) (Wd := 0) (Nat.le_refl _) (by decide)
  refine Run.st (T125.setTop (mkF m 4 #[vA a1, .val w1, .val .null] [])) st125 ?_
  refine Run.st (T125.setTop (mkF m 6 #[vA a1, .val w1, .val .null] [w1, (.ref a1)])) (fun _ k => XS.aloadN A125.here hx rfl (hb hby d19_4) rfl rfl (XS.aloadN A125.here hx rfl (hb hby d19_5) rfl r1 k)) ?_
  obtain ⟨T126, h126, A126, K126, W126, st126⟩ := A125.putF hx (tw64 H.1) Via.refl (a := a1) (List.mem_of_getElem? (i := 0) rfl) (v' := w1) F_b E_a1 (Or.inr ⟨(tw65 H.1), rfl, hnm⟩) (tw55 H.1) (ty := (.object "java/lang/Object")) (by decide) (narR r1 rfl) (fitR r1 rfl) (g := (mkF m 6 #[vA a1, .val w1, .val .null] [w1, (.ref a1)])) rfl rfl (hb hby d19_6)
  have F126 : Fld Z h126 a1 "com/example/gate_to_handlers/gatetohandlers/HttpEntity" "body" "Ljava/lang/Object;" w1 := F_b.same W126
  refine Run.st (T126.setTop (mkF m 9 #[vA a1, .val w1, .val .null] [])) st126 ?_
  refine Run.st (T126.setTop (mkF m 14 #[vA a1, .val w1, .val .null] [(.ref a1)])) (fun _ k => XS.aloadN A126.here hx rfl (hb hby d19_9) rfl rfl (XS.aloadN A126.here hx rfl (hb hby d19_10) rfl rfl (XS.ifnonnullNo A126.here hx rfl (hb hby d19_11) rfl k))) ?_
  obtain ⟨a127, T127, h127, A127, E127, g127, Ex127, D127, st127⟩ := A126.newO hx (tw66 H.1) (tw23 H.1) (tw24 H.1) (g := (mkF m 14 #[vA a1, .val w1, .val .null] [(.ref a1)])) rfl (hb hby d19_14) (by decide) (by decide)
  refine Run.st (T127.setTop (mkF m 17 #[vA a1, .val w1, .val .null] [(.ref a127), (.ref a1)])) st127 ?_
  refine Run.st (T127.setTop (mkF m 18 #[vA a1, .val w1, .val .null] [(.ref a127), (.ref a127), (.ref a1)])) (fun _ k => XS.dup A127.here hx rfl (hb hby d19_17) rfl rfl k) ?_
  have F129 : Fld Z h127 a127 "com/example/gate_to_handlers/gatetohandlers/HttpHeaders" "fields" "Ljava/util/Map;" .null := D127 (Or.inr (tw53 H.1)) (ty := (.object "java/util/Map")) (by decide)
  obtain ⟨v128, T128, h128, AA128, K128, ⟨L128, Q128⟩, st128⟩ := A127.callI hx (y := (⟨"com/example/gate_to_handlers/gatetohandlers/HttpHeaders", "<init>", "()V"⟩ : MethodName)) rfl (tw67 H.1) (tw26 H.1) (tw27 H.1) (by decide) (g := (mkF m 18 #[vA a1, .val w1, .val .null] [(.ref a127), (.ref a127), (.ref a1)])) rfl (by rw [hml]; rfl) a127 [] [(.ref a127), (.ref a1)] (lenOf pd_0 rfl) rfl (Wd := 2) (Nat.le_refl _) (hb hby d19_18) (by decide) (by decide) [a127] (fun _ _ _ q => q.2) (allS (List.mem_of_getElem? (i := 0) rfl) all0) (fun vm0 hZ => payN (ct_hh0 H a127 .null A127.old Ex127 (A127.nle (List.mem_of_getElem? (i := 0) rfl)) Ex127.lt F129) (tw27 H.1) (tw24 H.1) (by decide) (by decide) hZ)
  obtain ⟨Q128, N128, -⟩ := Q128
  obtain ⟨rfl, Ec128, t128, gt128, Ff128, Tq128⟩ := Q128
  obtain ⟨Te128, Tr128, Ts128, Tm128⟩ := Tq128
  have A128 := AA128 [t128] (allS (Or.inr gt128) all0)
  refine Run.st (T128.setTop (mkF m 21 #[vA a1, .val w1, .val .null] [(.ref a127), (.ref a1)])) st128 ?_
  refine Run.st (T128.setTop (mkF m 25 #[vA a1, .val w1, .val .null] [(.ref a127), (.ref a1)])) (fun _ k => XS.goto A128.here hx rfl (pc0 := 21) (pc' := 25) rfl (hb hby d19_21) (by decide) (by decide) k) ?_
  obtain ⟨v130, T130, h130, AA130, K130, ⟨L130, Q130⟩, st130⟩ := A128.callS hx (tw68 H.1) (tw69 H.1) (tw24 H.1) (tw70 H.1) (by decide) (g := (mkF m 25 #[vA a1, .val w1, .val .null] [(.ref a127), (.ref a1)])) rfl (by rw [hml]; rfl) [(.ref a127)] [(.ref a1)] (lenOf pd_12 rfl) rfl (Wd := 1) (Nat.le_refl _) (hb hby d19_25) (by decide) (by decide) [t128] (fun _ _ _ q => q.2) (allS (List.mem_of_getElem? (i := 0) rfl) all0) (fun vm0 hZ => payN (ct_ro H a127 t128 A128.old Ec128 Ff128 Te128 Tr128 Ts128 Tm128 (A128.nle (List.mem_of_getElem? (i := 0) rfl)) Te128.lt) (tw70 H.1) (tw24 H.1) (by decide) (by decide) hZ)
  obtain ⟨Q130, N130, -⟩ := Q130
  obtain ⟨r130, rfl⟩ := Q130
  have A130 := AA130 [] all0
  refine Run.st (T130.setTop (mkF m 28 #[vA a1, .val w1, .val .null] [(.ref r130), (.ref a1)])) st130 ?_
  have Z132 : h0.size ≤ h126.size := K126.1
  have Z133 : h0.size ≤ h127.size := Nat.le_trans Z132 E127.1
  have f134 := ((((F_h.other W126 (Or.inr (slot_ne (Or.inr (tw199 H.1)) (Or.inr (tw65 H.1)) (by decide) (t := (.object "com/example/gate_to_handlers/gatetohandlers/HttpHeaders")) (t' := (.object "java/lang/Object")) (by decide) (by decide)))).ext E127).keep K128 (ninS (Nat.ne_of_lt (Nat.lt_of_lt_of_le F_h.lt (Nat.le_trans Z132 (Nat.le_of_eq g127)))) nin0)).keep K130 (ninS (Nat.ne_of_lt (Nat.lt_of_lt_of_le F_h.lt (Nat.le_trans Z133 gt128.1))) nin0))
  have f135 := ((((E_a1.wr W126).ext E127).keep K128).keep K130)
  obtain ⟨T131, h131, A131, K131, W131, st131⟩ := A130.putF hx (tw198 H.1) Via.refl (a := a1) (List.mem_of_getElem? (i := 2) rfl) (v' := (.ref r130)) f134 f135 (Or.inr ⟨(tw199 H.1), rfl, hnm⟩) (tw55 H.1) (ty := (.object "com/example/gate_to_handlers/gatetohandlers/HttpHeaders")) (by decide) rfl rfl (g := (mkF m 28 #[vA a1, .val w1, .val .null] [(.ref r130), (.ref a1)])) rfl rfl (hb hby d19_28)
  have F131 : Fld Z h131 a1 "com/example/gate_to_handlers/gatetohandlers/HttpEntity" "headers" "Lcom/example/gate_to_handlers/gatetohandlers/HttpHeaders;" (.ref r130) := f134.same W131
  refine Run.st (T131.setTop (mkF m 31 #[vA a1, .val w1, .val .null] [])) st131 ?_
  have f136 := (((((E_a1.wr W126).ext E127).keep K128).keep K130).wr W131)
  have Z137 : h126.size ≤ h127.size := E127.1
  have f138 := ((((F126.ext E127).keep K128 (ninS (Nat.ne_of_lt (Nat.lt_of_lt_of_le F126.lt (Nat.le_of_eq g127))) nin0)).keep K130 (ninS (Nat.ne_of_lt (Nat.lt_of_lt_of_le F126.lt (Nat.le_trans Z137 gt128.1))) nin0)).other W131 (Or.inr (slot_ne (Or.inr (tw65 H.1)) (Or.inr (tw199 H.1)) (by decide) (t := (.object "java/lang/Object")) (t' := (.object "com/example/gate_to_handlers/gatetohandlers/HttpHeaders")) (by decide) (by decide))))
  exact A131.leaveN hlk none (fun _ => rfl) (by decide) (by decide) ⟨rfl, f136, f138⟩ (fun X hr => X.returnOut hx hrt (hb hby d19_31) hr)
theorem ef_heg (m : MethodId) (y0 : Addr) (y1 : Value) (y2 : Addr) (c_y1 : y1.category = 1) : entryFrame m #[(.ref y0), y1, (.ref y2)] 3 = mkF m 0 #[vA y0, .val y1, vA y2] [] := by first | (simp [entryFrame, mkF, argsToLocals, vI, vA, cat_r, cat_i, cat_l, cat_n, maxLocals, c_y1]; done) | rfl
def Q_heg (Z : State) (a1 : Addr) (u1 : Value) (u2 : Value) (w1 : Value) (b1 : Addr) (t1 : Addr) (h0 : Heap) (v : Option Value) (h : Heap) : Prop := v = none ∧ Exa Z h a1 "com/example/gate_to_handlers/gatetohandlers/HttpEntity" ∧ Fld Z h a1 "com/example/gate_to_handlers/gatetohandlers/HttpEntity" "body" "Ljava/lang/Object;" w1
def rm_heg : Room := { frames := 8, cells := 6, slots := 20, locals := 3088 }
set_option maxRecDepth 65536 in
set_option maxHeartbeats 40000000 in
theorem ct_heg {l : Launch} {Z : State} {a0 : Array Value} (H : Ev Z a0) (a1 : Addr) (u1 : Value) (u2 : Value) (w1 : Value) (b1 : Addr) (t1 : Addr) {h0 : Heap} {n0 : Nat} (O0 : Old Z n0 h0) (E_a1 : Exa Z h0 a1 "com/example/gate_to_handlers/gatetohandlers/HttpEntity") (g_a1 : n0 ≤ a1) (z_a1 : a1 < h0.size) (F_b : Fld Z h0 a1 "com/example/gate_to_handlers/gatetohandlers/HttpEntity" "body" "Ljava/lang/Object;" u1) (F_h : Fld Z h0 a1 "com/example/gate_to_handlers/gatetohandlers/HttpEntity" "headers" "Lcom/example/gate_to_handlers/gatetohandlers/HttpHeaders;" u2) (r1 : w1.isRef = true) (E_b1 : Exa Z h0 b1 "com/example/gate_to_handlers/gatetohandlers/HttpHeaders") (F1 : Fld Z h0 b1 "com/example/gate_to_handlers/gatetohandlers/HttpHeaders" "fields" "Ljava/util/Map;" (.ref t1)) (E_t1 : Exa Z h0 t1 "java/util/TreeMap") (Fr_t1 : Fld Z h0 t1 "java/util/TreeMap" "root" "Ljava/util/TreeMap$Entry;" .null) (Fe_t1 : Fld Z h0 t1 "java/util/TreeMap" "entrySet" "Ljava/util/TreeMap$EntrySet;" .null) (Fm_t1 : Fld Z h0 t1 "java/util/TreeMap" "modCount" "I" (.int (0 : Int32))) (g_t1 : n0 ≤ t1) (z_t1 : t1 < h0.size) : CtrN l Z (⟨"com/example/gate_to_handlers/gatetohandlers/HttpEntity", "<init>", "(Ljava/lang/Object;Lcom/example/gate_to_handlers/gatetohandlers/HttpHeaders;)V"⟩ : MethodName) prog_56_method_4_code 3 none [] rm_heg #[(.ref a1), w1, (.ref b1)] h0 [a1, t1] n0 (Q_heg Z a1 u1 u2 w1 b1 t1 h0) := by
  refine enterN (a0 := a0) (plainFor_of_name pn_12) O0 (allS ⟨g_a1, z_a1⟩ (allS ⟨g_t1, z_t1⟩ all0)) ?_
  intro p e s m below meth c T0 hx hby hml hrt hnm hlk A0
  replace A0 : Wk false Z a0 [] n0 h0 [a1, t1] "com/example/gate_to_handlers/gatetohandlers/HttpEntity" p l e rm_heg s m #[(.ref a1), w1, (.ref b1)] below meth c [a1, t1] T0 h0 0 0 := A0
  refine Run.st (T0.setTop (mkF m 0 #[vA a1, .val w1, vA b1] [])) (fun _ k => castTop (ef_heg m a1 w1 b1 (catR r1)) k) ?_
  refine Run.st (T0.setTop (mkF m 1 #[vA a1, .val w1, vA b1] [(.ref a1)])) (fun _ k => XS.aloadN A0.here hx rfl (hb hby d19_0) rfl rfl k) ?_
  obtain ⟨T139, A139, st139⟩ := A0.initO hx (tw63 H.1) (tw12 H.1) (tw13 H.1) (g := (mkF m 1 #[vA a1, .val w1, vA b1] [(.ref a1)])) rfl (by rw [hml]; rfl) rfl (hb hby d19_1) (by decide) (Wd := 0) (Nat.le_refl _) (by decide)
  refine Run.st (T139.setTop (mkF m 4 #[vA a1, .val w1, vA b1] [])) st139 ?_
  refine Run.st (T139.setTop (mkF m 6 #[vA a1, .val w1, vA b1] [w1, (.ref a1)])) (fun _ k => XS.aloadN A139.here hx rfl (hb hby d19_4) rfl rfl (XS.aloadN A139.here hx rfl (hb hby d19_5) rfl r1 k)) ?_
  obtain ⟨T140, h140, A140, K140, W140, st140⟩ := A139.putF hx (tw64 H.1) Via.refl (a := a1) (List.mem_of_getElem? (i := 0) rfl) (v' := w1) F_b E_a1 (Or.inr ⟨(tw65 H.1), rfl, hnm⟩) (tw55 H.1) (ty := (.object "java/lang/Object")) (by decide) (narR r1 rfl) (fitR r1 rfl) (g := (mkF m 6 #[vA a1, .val w1, vA b1] [w1, (.ref a1)])) rfl rfl (hb hby d19_6)
  have F140 : Fld Z h140 a1 "com/example/gate_to_handlers/gatetohandlers/HttpEntity" "body" "Ljava/lang/Object;" w1 := F_b.same W140
  refine Run.st (T140.setTop (mkF m 9 #[vA a1, .val w1, vA b1] [])) st140 ?_
  refine Run.st (T140.setTop (mkF m 25 #[vA a1, .val w1, vA b1] [(.ref b1), (.ref a1)])) (fun _ k => XS.aloadN A140.here hx rfl (hb hby d19_9) rfl rfl (XS.aloadN A140.here hx rfl (hb hby d19_10) rfl rfl (XS.ifnonnullYes A140.here hx rfl (pc0 := 11) (pc' := 24) rfl (hb hby d19_11) rfl (by decide) (by decide) (XS.aloadN A140.here hx rfl (hb hby d19_24) rfl rfl k)))) ?_
  have f142 := (F1.keep K140 (ninS (ne_exa E_b1 E_a1 (by decide)) nin0))
  have f143 := (E_t1.wr W140)
  have f144 := (Fr_t1.keep K140 (ninS (ne_exa E_t1 E_a1 (by decide)) nin0))
  have f145 := (Fe_t1.keep K140 (ninS (ne_exa E_t1 E_a1 (by decide)) nin0))
  have f146 := (Fm_t1.keep K140 (ninS (ne_exa E_t1 E_a1 (by decide)) nin0))
  have f147 := (E_b1.wr W140)
  obtain ⟨v141, T141, h141, AA141, K141, ⟨L141, Q141⟩, st141⟩ := A140.callS hx (tw68 H.1) (tw69 H.1) (tw24 H.1) (tw70 H.1) (by decide) (g := (mkF m 25 #[vA a1, .val w1, vA b1] [(.ref b1), (.ref a1)])) rfl (by rw [hml]; rfl) [(.ref b1)] [(.ref a1)] (lenOf pd_12 rfl) rfl (Wd := 1) (Nat.le_refl _) (hb hby d19_25) (by decide) (by decide) [t1] (fun _ _ _ q => q.2) (allS (List.mem_of_getElem? (i := 1) rfl) all0) (fun vm0 hZ => payN (ct_ro H b1 t1 A140.old f147 f142 f143 f144 f145 f146 (A140.nle (List.mem_of_getElem? (i := 1) rfl)) f143.lt) (tw70 H.1) (tw24 H.1) (by decide) (by decide) hZ)
  obtain ⟨Q141, N141, -⟩ := Q141
  obtain ⟨r141, rfl⟩ := Q141
  have A141 := AA141 [] all0
  refine Run.st (T141.setTop (mkF m 28 #[vA a1, .val w1, vA b1] [(.ref r141), (.ref a1)])) st141 ?_
  have f149 := (E_a1.wr W140)
  have f150 := ((F_h.other W140 (Or.inr (slot_ne (Or.inr (tw199 H.1)) (Or.inr (tw65 H.1)) (by decide) (t := (.object "com/example/gate_to_handlers/gatetohandlers/HttpHeaders")) (t' := (.object "java/lang/Object")) (by decide) (by decide)))).keep K141 (ninS (ne_exa f149 f143 (by decide)) nin0))
  have f151 := ((E_a1.wr W140).keep K141)
  obtain ⟨T148, h148, A148, K148, W148, st148⟩ := A141.putF hx (tw198 H.1) Via.refl (a := a1) (List.mem_of_getElem? (i := 0) rfl) (v' := (.ref r141)) f150 f151 (Or.inr ⟨(tw199 H.1), rfl, hnm⟩) (tw55 H.1) (ty := (.object "com/example/gate_to_handlers/gatetohandlers/HttpHeaders")) (by decide) rfl rfl (g := (mkF m 28 #[vA a1, .val w1, vA b1] [(.ref r141), (.ref a1)])) rfl rfl (hb hby d19_28)
  have F148 : Fld Z h148 a1 "com/example/gate_to_handlers/gatetohandlers/HttpEntity" "headers" "Lcom/example/gate_to_handlers/gatetohandlers/HttpHeaders;" (.ref r141) := f150.same W148
  refine Run.st (T148.setTop (mkF m 31 #[vA a1, .val w1, vA b1] [])) st148 ?_
  have f152 := (((E_a1.wr W140).keep K141).wr W148)
  have f153 := ((F140.keep K141 (ninS (ne_exa f149 f143 (by decide)) nin0)).other W148 (Or.inr (slot_ne (Or.inr (tw65 H.1)) (Or.inr (tw199 H.1)) (by decide) (t := (.object "java/lang/Object")) (t' := (.object "com/example/gate_to_handlers/gatetohandlers/HttpHeaders")) (by decide) (by decide))))
  exact A148.leaveN hlk none (fun _ => rfl) (by decide) (by decide) ⟨rfl, f152, f153⟩ (fun X hr => X.returnOut hx hrt (hb hby d19_31) hr)
theorem ef_he0 (m : MethodId) (y0 : Addr) : entryFrame m #[(.ref y0)] 1 = mkF m 0 #[vA y0] [] := by first | (simp [entryFrame, mkF, argsToLocals, vI, vA, Value.category, maxLocals]; done) | rfl
def Q_he0 (Z : State) (a1 : Addr) (u1 : Value) (u2 : Value) (h0 : Heap) (v : Option Value) (h : Heap) : Prop := v = none ∧ Exa Z h a1 "com/example/gate_to_handlers/gatetohandlers/HttpEntity" ∧ Fld Z h a1 "com/example/gate_to_handlers/gatetohandlers/HttpEntity" "body" "Ljava/lang/Object;" .null
def rm_he0 : Room := { frames := 9, cells := 8, slots := 30, locals := 3102 }
set_option maxRecDepth 65536 in
set_option maxHeartbeats 40000000 in
theorem ct_he0 {l : Launch} {Z : State} {a0 : Array Value} (H : Ev Z a0) (a1 : Addr) (u1 : Value) (u2 : Value) {h0 : Heap} {n0 : Nat} (O0 : Old Z n0 h0) (E_a1 : Exa Z h0 a1 "com/example/gate_to_handlers/gatetohandlers/HttpEntity") (g_a1 : n0 ≤ a1) (z_a1 : a1 < h0.size) (F_b : Fld Z h0 a1 "com/example/gate_to_handlers/gatetohandlers/HttpEntity" "body" "Ljava/lang/Object;" u1) (F_h : Fld Z h0 a1 "com/example/gate_to_handlers/gatetohandlers/HttpEntity" "headers" "Lcom/example/gate_to_handlers/gatetohandlers/HttpHeaders;" u2) : CtrN l Z (⟨"com/example/gate_to_handlers/gatetohandlers/HttpEntity", "<init>", "()V"⟩ : MethodName) prog_56_method_1_code 1 none [] rm_he0 #[(.ref a1)] h0 [a1] n0 (Q_he0 Z a1 u1 u2 h0) := by
  refine enterN (a0 := a0) (plainFor_of_name pn_12) O0 (allS ⟨g_a1, z_a1⟩ all0) ?_
  intro p e s m below meth c T0 hx hby hml hrt hnm hlk A0
  replace A0 : Wk false Z a0 [] n0 h0 [a1] "com/example/gate_to_handlers/gatetohandlers/HttpEntity" p l e rm_he0 s m #[(.ref a1)] below meth c [a1] T0 h0 0 0 := A0
  refine Run.st (T0.setTop (mkF m 0 #[vA a1] [])) (fun _ k => castTop (ef_he0 m a1) k) ?_
  refine Run.st (T0.setTop (mkF m 3 #[vA a1] [.null, .null, (.ref a1)])) (fun _ k => XS.aloadN A0.here hx rfl (hb hby d20_0) rfl rfl (XS.aconstNull A0.here hx rfl (hb hby d20_1) (XS.aconstNull A0.here hx rfl (hb hby d20_2) k))) ?_
  obtain ⟨v154, T154, h154, AA154, K154, ⟨L154, Q154⟩, st154⟩ := A0.callI hx (y := (⟨"com/example/gate_to_handlers/gatetohandlers/HttpEntity", "<init>", "(Ljava/lang/Object;Lcom/example/gate_to_handlers/gatetohandlers/HttpHeaders;)V"⟩ : MethodName)) rfl (tw60 H.1) (tw61 H.1) (tw62 H.1) (by decide) (g := (mkF m 3 #[vA a1] [.null, .null, (.ref a1)])) rfl (by rw [hml]; rfl) a1 [.null, .null] [] (lenOf pd_13 rfl) rfl (Wd := 0) (Nat.le_refl _) (hb hby d20_3) (by decide) (by decide) [a1] (fun _ _ _ q => q.2) (allS (List.mem_of_getElem? (i := 0) rfl) all0) (fun vm0 hZ => payN (ct_hen H a1 u1 u2 .null A0.old E_a1 (A0.nle (List.mem_of_getElem? (i := 0) rfl)) E_a1.lt F_b F_h rfl) (tw62 H.1) (tw56 H.1) (by decide) (by decide) hZ)
  obtain ⟨Q154, N154, -⟩ := Q154
  obtain ⟨rfl, Ec154, Ff154⟩ := Q154
  have A154 := AA154 [] all0
  refine Run.st (T154.setTop (mkF m 6 #[vA a1] [])) st154 ?_
  exact A154.leaveN hlk none (fun _ => rfl) (by decide) (by decide) ⟨rfl, Ec154, Ff154⟩ (fun X hr => X.returnOut hx hrt (hb hby d20_6) hr)
theorem ef_heo (m : MethodId) (y0 : Addr) (y1 : Value) (c_y1 : y1.category = 1) : entryFrame m #[(.ref y0), y1] 2 = mkF m 0 #[vA y0, .val y1] [] := by first | (simp [entryFrame, mkF, argsToLocals, vI, vA, cat_r, cat_i, cat_l, cat_n, maxLocals, c_y1]; done) | rfl
def Q_heo (Z : State) (a1 : Addr) (u1 : Value) (u2 : Value) (w1 : Value) (h0 : Heap) (v : Option Value) (h : Heap) : Prop := v = none ∧ Exa Z h a1 "com/example/gate_to_handlers/gatetohandlers/HttpEntity" ∧ Fld Z h a1 "com/example/gate_to_handlers/gatetohandlers/HttpEntity" "body" "Ljava/lang/Object;" w1
def rm_heo : Room := { frames := 9, cells := 8, slots := 30, locals := 3102 }
set_option maxRecDepth 65536 in
set_option maxHeartbeats 40000000 in
theorem ct_heo {l : Launch} {Z : State} {a0 : Array Value} (H : Ev Z a0) (a1 : Addr) (u1 : Value) (u2 : Value) (w1 : Value) {h0 : Heap} {n0 : Nat} (O0 : Old Z n0 h0) (E_a1 : Exa Z h0 a1 "com/example/gate_to_handlers/gatetohandlers/HttpEntity") (g_a1 : n0 ≤ a1) (z_a1 : a1 < h0.size) (F_b : Fld Z h0 a1 "com/example/gate_to_handlers/gatetohandlers/HttpEntity" "body" "Ljava/lang/Object;" u1) (F_h : Fld Z h0 a1 "com/example/gate_to_handlers/gatetohandlers/HttpEntity" "headers" "Lcom/example/gate_to_handlers/gatetohandlers/HttpHeaders;" u2) (r1 : w1.isRef = true) : CtrN l Z (⟨"com/example/gate_to_handlers/gatetohandlers/HttpEntity", "<init>", "(Ljava/lang/Object;)V"⟩ : MethodName) prog_56_method_2_code 2 none [] rm_heo #[(.ref a1), w1] h0 [a1] n0 (Q_heo Z a1 u1 u2 w1 h0) := by
  refine enterN (a0 := a0) (plainFor_of_name pn_12) O0 (allS ⟨g_a1, z_a1⟩ all0) ?_
  intro p e s m below meth c T0 hx hby hml hrt hnm hlk A0
  replace A0 : Wk false Z a0 [] n0 h0 [a1] "com/example/gate_to_handlers/gatetohandlers/HttpEntity" p l e rm_heo s m #[(.ref a1), w1] below meth c [a1] T0 h0 0 0 := A0
  refine Run.st (T0.setTop (mkF m 0 #[vA a1, .val w1] [])) (fun _ k => castTop (ef_heo m a1 w1 (catR r1)) k) ?_
  refine Run.st (T0.setTop (mkF m 3 #[vA a1, .val w1] [.null, w1, (.ref a1)])) (fun _ k => XS.aloadN A0.here hx rfl (hb hby d21_0) rfl rfl (XS.aloadN A0.here hx rfl (hb hby d21_1) rfl r1 (XS.aconstNull A0.here hx rfl (hb hby d21_2) k))) ?_
  obtain ⟨v155, T155, h155, AA155, K155, ⟨L155, Q155⟩, st155⟩ := A0.callI hx (y := (⟨"com/example/gate_to_handlers/gatetohandlers/HttpEntity", "<init>", "(Ljava/lang/Object;Lcom/example/gate_to_handlers/gatetohandlers/HttpHeaders;)V"⟩ : MethodName)) rfl (tw60 H.1) (tw61 H.1) (tw62 H.1) (by decide) (g := (mkF m 3 #[vA a1, .val w1] [.null, w1, (.ref a1)])) rfl (by rw [hml]; rfl) a1 [w1, .null] [] (lenOf pd_13 rfl) rfl (Wd := 0) (Nat.le_refl _) (hb hby d21_3) (by decide) (by decide) [a1] (fun _ _ _ q => q.2) (allS (List.mem_of_getElem? (i := 0) rfl) all0) (fun vm0 hZ => payN (ct_hen H a1 u1 u2 w1 A0.old E_a1 (A0.nle (List.mem_of_getElem? (i := 0) rfl)) E_a1.lt F_b F_h r1) (tw62 H.1) (tw56 H.1) (by decide) (by decide) hZ)
  obtain ⟨Q155, N155, -⟩ := Q155
  obtain ⟨rfl, Ec155, Ff155⟩ := Q155
  have A155 := AA155 [] all0
  refine Run.st (T155.setTop (mkF m 6 #[vA a1, .val w1] [])) st155 ?_
  exact A155.leaveN hlk none (fun _ => rfl) (by decide) (by decide) ⟨rfl, Ec155, Ff155⟩ (fun X hr => X.returnOut hx hrt (hb hby d21_6) hr)
theorem ef_hehn (m : MethodId) (y0 : Addr) : entryFrame m #[(.ref y0), .null] 2 = mkF m 0 #[vA y0, .val .null] [] := by first | (simp [entryFrame, mkF, argsToLocals, vI, vA, Value.category, maxLocals]; done) | rfl
def Q_hehn (Z : State) (a1 : Addr) (u1 : Value) (u2 : Value) (h0 : Heap) (v : Option Value) (h : Heap) : Prop := v = none ∧ Exa Z h a1 "com/example/gate_to_handlers/gatetohandlers/HttpEntity" ∧ Fld Z h a1 "com/example/gate_to_handlers/gatetohandlers/HttpEntity" "body" "Ljava/lang/Object;" .null
def rm_hehn : Room := { frames := 9, cells := 8, slots := 30, locals := 3102 }
set_option maxRecDepth 65536 in
set_option maxHeartbeats 40000000 in
theorem ct_hehn {l : Launch} {Z : State} {a0 : Array Value} (H : Ev Z a0) (a1 : Addr) (u1 : Value) (u2 : Value) {h0 : Heap} {n0 : Nat} (O0 : Old Z n0 h0) (E_a1 : Exa Z h0 a1 "com/example/gate_to_handlers/gatetohandlers/HttpEntity") (g_a1 : n0 ≤ a1) (z_a1 : a1 < h0.size) (F_b : Fld Z h0 a1 "com/example/gate_to_handlers/gatetohandlers/HttpEntity" "body" "Ljava/lang/Object;" u1) (F_h : Fld Z h0 a1 "com/example/gate_to_handlers/gatetohandlers/HttpEntity" "headers" "Lcom/example/gate_to_handlers/gatetohandlers/HttpHeaders;" u2) : CtrN l Z (⟨"com/example/gate_to_handlers/gatetohandlers/HttpEntity", "<init>", "(Lcom/example/gate_to_handlers/gatetohandlers/HttpHeaders;)V"⟩ : MethodName) prog_56_method_3_code 2 none [] rm_hehn #[(.ref a1), .null] h0 [a1] n0 (Q_hehn Z a1 u1 u2 h0) := by
  refine enterN (a0 := a0) (plainFor_of_name pn_12) O0 (allS ⟨g_a1, z_a1⟩ all0) ?_
  intro p e s m below meth c T0 hx hby hml hrt hnm hlk A0
  replace A0 : Wk false Z a0 [] n0 h0 [a1] "com/example/gate_to_handlers/gatetohandlers/HttpEntity" p l e rm_hehn s m #[(.ref a1), .null] below meth c [a1] T0 h0 0 0 := A0
  refine Run.st (T0.setTop (mkF m 0 #[vA a1, .val .null] [])) (fun _ k => castTop (ef_hehn m a1) k) ?_
  refine Run.st (T0.setTop (mkF m 3 #[vA a1, .val .null] [.null, .null, (.ref a1)])) (fun _ k => XS.aloadN A0.here hx rfl (hb hby d22_0) rfl rfl (XS.aconstNull A0.here hx rfl (hb hby d22_1) (XS.aloadN A0.here hx rfl (hb hby d22_2) rfl rfl k))) ?_
  obtain ⟨v156, T156, h156, AA156, K156, ⟨L156, Q156⟩, st156⟩ := A0.callI hx (y := (⟨"com/example/gate_to_handlers/gatetohandlers/HttpEntity", "<init>", "(Ljava/lang/Object;Lcom/example/gate_to_handlers/gatetohandlers/HttpHeaders;)V"⟩ : MethodName)) rfl (tw60 H.1) (tw61 H.1) (tw62 H.1) (by decide) (g := (mkF m 3 #[vA a1, .val .null] [.null, .null, (.ref a1)])) rfl (by rw [hml]; rfl) a1 [.null, .null] [] (lenOf pd_13 rfl) rfl (Wd := 0) (Nat.le_refl _) (hb hby d22_3) (by decide) (by decide) [a1] (fun _ _ _ q => q.2) (allS (List.mem_of_getElem? (i := 0) rfl) all0) (fun vm0 hZ => payN (ct_hen H a1 u1 u2 .null A0.old E_a1 (A0.nle (List.mem_of_getElem? (i := 0) rfl)) E_a1.lt F_b F_h rfl) (tw62 H.1) (tw56 H.1) (by decide) (by decide) hZ)
  obtain ⟨Q156, N156, -⟩ := Q156
  obtain ⟨rfl, Ec156, Ff156⟩ := Q156
  have A156 := AA156 [] all0
  refine Run.st (T156.setTop (mkF m 6 #[vA a1, .val .null] [])) st156 ?_
  exact A156.leaveN hlk none (fun _ => rfl) (by decide) (by decide) ⟨rfl, Ec156, Ff156⟩ (fun X hr => X.returnOut hx hrt (hb hby d22_6) hr)
theorem ef_hehg (m : MethodId) (y0 : Addr) (y1 : Addr) : entryFrame m #[(.ref y0), (.ref y1)] 2 = mkF m 0 #[vA y0, vA y1] [] := by first | (simp [entryFrame, mkF, argsToLocals, vI, vA, Value.category, maxLocals]; done) | rfl
def Q_hehg (Z : State) (a1 : Addr) (u1 : Value) (u2 : Value) (b1 : Addr) (t1 : Addr) (h0 : Heap) (v : Option Value) (h : Heap) : Prop := v = none ∧ Exa Z h a1 "com/example/gate_to_handlers/gatetohandlers/HttpEntity" ∧ Fld Z h a1 "com/example/gate_to_handlers/gatetohandlers/HttpEntity" "body" "Ljava/lang/Object;" .null
def rm_hehg : Room := { frames := 9, cells := 6, slots := 20, locals := 3102 }
set_option maxRecDepth 65536 in
set_option maxHeartbeats 40000000 in
theorem ct_hehg {l : Launch} {Z : State} {a0 : Array Value} (H : Ev Z a0) (a1 : Addr) (u1 : Value) (u2 : Value) (b1 : Addr) (t1 : Addr) {h0 : Heap} {n0 : Nat} (O0 : Old Z n0 h0) (E_a1 : Exa Z h0 a1 "com/example/gate_to_handlers/gatetohandlers/HttpEntity") (g_a1 : n0 ≤ a1) (z_a1 : a1 < h0.size) (F_b : Fld Z h0 a1 "com/example/gate_to_handlers/gatetohandlers/HttpEntity" "body" "Ljava/lang/Object;" u1) (F_h : Fld Z h0 a1 "com/example/gate_to_handlers/gatetohandlers/HttpEntity" "headers" "Lcom/example/gate_to_handlers/gatetohandlers/HttpHeaders;" u2) (E_b1 : Exa Z h0 b1 "com/example/gate_to_handlers/gatetohandlers/HttpHeaders") (F1 : Fld Z h0 b1 "com/example/gate_to_handlers/gatetohandlers/HttpHeaders" "fields" "Ljava/util/Map;" (.ref t1)) (E_t1 : Exa Z h0 t1 "java/util/TreeMap") (Fr_t1 : Fld Z h0 t1 "java/util/TreeMap" "root" "Ljava/util/TreeMap$Entry;" .null) (Fe_t1 : Fld Z h0 t1 "java/util/TreeMap" "entrySet" "Ljava/util/TreeMap$EntrySet;" .null) (Fm_t1 : Fld Z h0 t1 "java/util/TreeMap" "modCount" "I" (.int (0 : Int32))) (g_t1 : n0 ≤ t1) (z_t1 : t1 < h0.size) : CtrN l Z (⟨"com/example/gate_to_handlers/gatetohandlers/HttpEntity", "<init>", "(Lcom/example/gate_to_handlers/gatetohandlers/HttpHeaders;)V"⟩ : MethodName) prog_56_method_3_code 2 none [] rm_hehg #[(.ref a1), (.ref b1)] h0 [a1, t1] n0 (Q_hehg Z a1 u1 u2 b1 t1 h0) := by
  refine enterN (a0 := a0) (plainFor_of_name pn_12) O0 (allS ⟨g_a1, z_a1⟩ (allS ⟨g_t1, z_t1⟩ all0)) ?_
  intro p e s m below meth c T0 hx hby hml hrt hnm hlk A0
  replace A0 : Wk false Z a0 [] n0 h0 [a1, t1] "com/example/gate_to_handlers/gatetohandlers/HttpEntity" p l e rm_hehg s m #[(.ref a1), (.ref b1)] below meth c [a1, t1] T0 h0 0 0 := A0
  refine Run.st (T0.setTop (mkF m 0 #[vA a1, vA b1] [])) (fun _ k => castTop (ef_hehg m a1 b1) k) ?_
  refine Run.st (T0.setTop (mkF m 3 #[vA a1, vA b1] [(.ref b1), .null, (.ref a1)])) (fun _ k => XS.aloadN A0.here hx rfl (hb hby d22_0) rfl rfl (XS.aconstNull A0.here hx rfl (hb hby d22_1) (XS.aloadN A0.here hx rfl (hb hby d22_2) rfl rfl k))) ?_
  obtain ⟨v157, T157, h157, AA157, K157, ⟨L157, Q157⟩, st157⟩ := A0.callI hx (y := (⟨"com/example/gate_to_handlers/gatetohandlers/HttpEntity", "<init>", "(Ljava/lang/Object;Lcom/example/gate_to_handlers/gatetohandlers/HttpHeaders;)V"⟩ : MethodName)) rfl (tw60 H.1) (tw61 H.1) (tw62 H.1) (by decide) (g := (mkF m 3 #[vA a1, vA b1] [(.ref b1), .null, (.ref a1)])) rfl (by rw [hml]; rfl) a1 [.null, (.ref b1)] [] (lenOf pd_13 rfl) rfl (Wd := 0) (Nat.le_refl _) (hb hby d22_3) (by decide) (by decide) [a1, t1] (fun _ _ _ q => q.2) (allS (List.mem_of_getElem? (i := 0) rfl) (allS (List.mem_of_getElem? (i := 1) rfl) all0)) (fun vm0 hZ => payN (ct_heg H a1 u1 u2 .null b1 t1 A0.old E_a1 (A0.nle (List.mem_of_getElem? (i := 0) rfl)) E_a1.lt F_b F_h rfl E_b1 F1 E_t1 Fr_t1 Fe_t1 Fm_t1 (A0.nle (List.mem_of_getElem? (i := 1) rfl)) E_t1.lt) (tw62 H.1) (tw56 H.1) (by decide) (by decide) hZ)
  obtain ⟨Q157, N157, -⟩ := Q157
  obtain ⟨rfl, Ec157, Ff157⟩ := Q157
  have A157 := AA157 [] all0
  refine Run.st (T157.setTop (mkF m 6 #[vA a1, vA b1] [])) st157 ?_
  exact A157.leaveN hlk none (fun _ => rfl) (by decide) (by decide) ⟨rfl, Ec157, Ff157⟩ (fun X hr => X.returnOut hx hrt (hb hby d22_6) hr)
theorem ef_hb_n (m : MethodId) (y0 : Addr) : entryFrame m #[(.ref y0)] 1 = mkF m 0 #[vA y0] [] := by first | (simp [entryFrame, mkF, argsToLocals, vI, vA, Value.category, maxLocals]; done) | rfl
def Q_hb_n (Z : State) (a1 : Addr) (h0 : Heap) (v : Option Value) (h : Heap) : Prop := v = some (.int (0 : Int32)) ∧ h = h0
def rm_hb_n : Room := { frames := 0, cells := 0, slots := 0, locals := 0 }
set_option maxRecDepth 65536 in
set_option maxHeartbeats 40000000 in
theorem ct_hb_n {l : Launch} {Z : State} {a0 : Array Value} (H : Ev Z a0) (a1 : Addr) {h0 : Heap} {n0 : Nat} (O0 : Old Z n0 h0) (F1 : Fld Z h0 a1 "com/example/gate_to_handlers/gatetohandlers/HttpEntity" "body" "Ljava/lang/Object;" .null) : CtrN l Z (⟨"com/example/gate_to_handlers/gatetohandlers/HttpEntity", "hasBody", "()Z"⟩ : MethodName) prog_56_method_7_code 1 (some .boolean) [] rm_hb_n #[(.ref a1)] h0 [] n0 (Q_hb_n Z a1 h0) := by
  refine enterN (a0 := a0) (plainFor_of_name pn_12) O0 all0 ?_
  intro p e s m below meth c T0 hx hby hml hrt hnm hlk A0
  replace A0 : Wk false Z a0 [] n0 h0 [] "com/example/gate_to_handlers/gatetohandlers/HttpEntity" p l e rm_hb_n s m #[(.ref a1)] below meth c [] T0 h0 0 0 := A0
  refine Run.st (T0.setTop (mkF m 0 #[vA a1] [])) (fun _ k => castTop (ef_hb_n m a1) k) ?_
  refine Run.st (T0.setTop (mkF m 1 #[vA a1] [(.ref a1)])) (fun _ k => XS.aloadN A0.here hx rfl (hb hby d23_0) rfl rfl k) ?_
  obtain ⟨T158, A158, st158⟩ := A0.getF hx (tw64 H.1) Via.refl F1 (g := (mkF m 1 #[vA a1] [(.ref a1)])) rfl rfl (hb hby d23_1)
  refine Run.st (T158.setTop (mkF m 4 #[vA a1] [.null])) st158 ?_
  refine Run.st (T158.setTop (mkF m 12 #[vA a1] [.int 0])) (fun _ k => XS.ifnullYes A158.here hx rfl (pc0 := 4) (pc' := 11) rfl (hb hby d23_4) rfl (by decide) (by decide) (XS.iconst A158.here hx rfl (hb hby d23_11) k)) ?_
  exact A158.leaveN hlk (some (.int (0 : Int32))) (fun q => by rw [hrt] at q; cases q) (by decide) (by decide) ⟨rfl, rfl⟩ (fun X hr => retN X hx (t := .boolean) hrt (by simp) (hb hby d23_12) hr)
theorem ef_hb_a (m : MethodId) (y0 : Addr) : entryFrame m #[(.ref y0)] 1 = mkF m 0 #[vA y0] [] := by first | (simp [entryFrame, mkF, argsToLocals, vI, vA, Value.category, maxLocals]; done) | rfl
def Q_hb_a (Z : State) (a1 : Addr) (b1 : Addr) (h0 : Heap) (v : Option Value) (h : Heap) : Prop := v = some (.int (1 : Int32)) ∧ h = h0
def rm_hb_a : Room := { frames := 0, cells := 0, slots := 0, locals := 0 }
set_option maxRecDepth 65536 in
set_option maxHeartbeats 40000000 in
theorem ct_hb_a {l : Launch} {Z : State} {a0 : Array Value} (H : Ev Z a0) (a1 : Addr) (b1 : Addr) {h0 : Heap} {n0 : Nat} (O0 : Old Z n0 h0) (F1 : Fld Z h0 a1 "com/example/gate_to_handlers/gatetohandlers/HttpEntity" "body" "Ljava/lang/Object;" (.ref b1)) : CtrN l Z (⟨"com/example/gate_to_handlers/gatetohandlers/HttpEntity", "hasBody", "()Z"⟩ : MethodName) prog_56_method_7_code 1 (some .boolean) [] rm_hb_a #[(.ref a1)] h0 [] n0 (Q_hb_a Z a1 b1 h0) := by
  refine enterN (a0 := a0) (plainFor_of_name pn_12) O0 all0 ?_
  intro p e s m below meth c T0 hx hby hml hrt hnm hlk A0
  replace A0 : Wk false Z a0 [] n0 h0 [] "com/example/gate_to_handlers/gatetohandlers/HttpEntity" p l e rm_hb_a s m #[(.ref a1)] below meth c [] T0 h0 0 0 := A0
  refine Run.st (T0.setTop (mkF m 0 #[vA a1] [])) (fun _ k => castTop (ef_hb_a m a1) k) ?_
  refine Run.st (T0.setTop (mkF m 1 #[vA a1] [(.ref a1)])) (fun _ k => XS.aloadN A0.here hx rfl (hb hby d23_0) rfl rfl k) ?_
  obtain ⟨T159, A159, st159⟩ := A0.getF hx (tw64 H.1) Via.refl F1 (g := (mkF m 1 #[vA a1] [(.ref a1)])) rfl rfl (hb hby d23_1)
  refine Run.st (T159.setTop (mkF m 4 #[vA a1] [(.ref b1)])) st159 ?_
  refine Run.st (T159.setTop (mkF m 12 #[vA a1] [.int 1])) (fun _ k => XS.ifnullNo A159.here hx rfl (hb hby d23_4) rfl (XS.iconst A159.here hx rfl (hb hby d23_7) (XS.goto A159.here hx rfl (pc0 := 8) (pc' := 12) rfl (hb hby d23_8) (by decide) (by decide) k))) ?_
  exact A159.leaveN hlk (some (.int (1 : Int32))) (fun q => by rw [hrt] at q; cases q) (by decide) (by decide) ⟨rfl, rfl⟩ (fun X hr => retN X hx (t := .boolean) hrt (by simp) (hb hby d23_12) hr)
theorem ef_gb_n (m : MethodId) (y0 : Addr) : entryFrame m #[(.ref y0)] 1 = mkF m 0 #[vA y0] [] := by first | (simp [entryFrame, mkF, argsToLocals, vI, vA, Value.category, maxLocals]; done) | rfl
def Q_gb_n (Z : State) (a1 : Addr) (h0 : Heap) (v : Option Value) (h : Heap) : Prop := v = some .null ∧ h = h0
def rm_gb_n : Room := { frames := 0, cells := 0, slots := 0, locals := 0 }
set_option maxRecDepth 65536 in
set_option maxHeartbeats 40000000 in
theorem ct_gb_n {l : Launch} {Z : State} {a0 : Array Value} (H : Ev Z a0) (a1 : Addr) {h0 : Heap} {n0 : Nat} (O0 : Old Z n0 h0) (F1 : Fld Z h0 a1 "com/example/gate_to_handlers/gatetohandlers/HttpEntity" "body" "Ljava/lang/Object;" .null) : CtrN l Z (⟨"com/example/gate_to_handlers/gatetohandlers/HttpEntity", "getBody", "()Ljava/lang/Object;"⟩ : MethodName) prog_56_method_6_code 1 (some (.object "java/lang/Object")) [] rm_gb_n #[(.ref a1)] h0 [] n0 (Q_gb_n Z a1 h0) := by
  refine enterN (a0 := a0) (plainFor_of_name pn_12) O0 all0 ?_
  intro p e s m below meth c T0 hx hby hml hrt hnm hlk A0
  replace A0 : Wk false Z a0 [] n0 h0 [] "com/example/gate_to_handlers/gatetohandlers/HttpEntity" p l e rm_gb_n s m #[(.ref a1)] below meth c [] T0 h0 0 0 := A0
  refine Run.st (T0.setTop (mkF m 0 #[vA a1] [])) (fun _ k => castTop (ef_gb_n m a1) k) ?_
  refine Run.st (T0.setTop (mkF m 1 #[vA a1] [(.ref a1)])) (fun _ k => XS.aloadN A0.here hx rfl (hb hby d24_0) rfl rfl k) ?_
  obtain ⟨T160, A160, st160⟩ := A0.getF hx (tw64 H.1) Via.refl F1 (g := (mkF m 1 #[vA a1] [(.ref a1)])) rfl rfl (hb hby d24_1)
  refine Run.st (T160.setTop (mkF m 4 #[vA a1] [.null])) st160 ?_
  exact A160.leaveN hlk (some .null) (fun q => by rw [hrt] at q; cases q) (by decide) (by decide) ⟨rfl, rfl⟩ (fun X hr => retOut X hx (w := .null) (t := (.object "java/lang/Object")) hrt rfl (Or.inr (Or.inr (Or.inr (Or.inr ⟨rfl, rfl, rfl⟩)))) (hb hby d24_4) hr)
theorem ef_gb_a (m : MethodId) (y0 : Addr) : entryFrame m #[(.ref y0)] 1 = mkF m 0 #[vA y0] [] := by first | (simp [entryFrame, mkF, argsToLocals, vI, vA, Value.category, maxLocals]; done) | rfl
def Q_gb_a (Z : State) (a1 : Addr) (b1 : Addr) (h0 : Heap) (v : Option Value) (h : Heap) : Prop := v = some (.ref b1) ∧ h = h0
def rm_gb_a : Room := { frames := 0, cells := 0, slots := 0, locals := 0 }
set_option maxRecDepth 65536 in
set_option maxHeartbeats 40000000 in
theorem ct_gb_a {l : Launch} {Z : State} {a0 : Array Value} (H : Ev Z a0) (a1 : Addr) (b1 : Addr) {h0 : Heap} {n0 : Nat} (O0 : Old Z n0 h0) (F1 : Fld Z h0 a1 "com/example/gate_to_handlers/gatetohandlers/HttpEntity" "body" "Ljava/lang/Object;" (.ref b1)) : CtrN l Z (⟨"com/example/gate_to_handlers/gatetohandlers/HttpEntity", "getBody", "()Ljava/lang/Object;"⟩ : MethodName) prog_56_method_6_code 1 (some (.object "java/lang/Object")) [] rm_gb_a #[(.ref a1)] h0 [] n0 (Q_gb_a Z a1 b1 h0) := by
  refine enterN (a0 := a0) (plainFor_of_name pn_12) O0 all0 ?_
  intro p e s m below meth c T0 hx hby hml hrt hnm hlk A0
  replace A0 : Wk false Z a0 [] n0 h0 [] "com/example/gate_to_handlers/gatetohandlers/HttpEntity" p l e rm_gb_a s m #[(.ref a1)] below meth c [] T0 h0 0 0 := A0
  refine Run.st (T0.setTop (mkF m 0 #[vA a1] [])) (fun _ k => castTop (ef_gb_a m a1) k) ?_
  refine Run.st (T0.setTop (mkF m 1 #[vA a1] [(.ref a1)])) (fun _ k => XS.aloadN A0.here hx rfl (hb hby d24_0) rfl rfl k) ?_
  obtain ⟨T161, A161, st161⟩ := A0.getF hx (tw64 H.1) Via.refl F1 (g := (mkF m 1 #[vA a1] [(.ref a1)])) rfl rfl (hb hby d24_1)
  refine Run.st (T161.setTop (mkF m 4 #[vA a1] [(.ref b1)])) st161 ?_
  exact A161.leaveN hlk (some (.ref b1)) (fun q => by rw [hrt] at q; cases q) (by decide) (by decide) ⟨rfl, rfl⟩ (fun X hr => retOut X hx (w := (.ref b1)) (t := (.object "java/lang/Object")) hrt rfl (Or.inr (Or.inr (Or.inr (Or.inr ⟨rfl, rfl, rfl⟩)))) (hb hby d24_4) hr)
theorem ef_ini4 (m : MethodId) (y0 : Addr) (y1 : Addr) (y2 : Int32) (y3 : Int32) : entryFrame m #[(.ref y0), (.ref y1), (.int y2), (.int y3), .null] 6 = mkF m 0 #[vA y0, vA y1, vI y2, vI y3, .val .null, .unset] [] := by first | (simp [entryFrame, mkF, argsToLocals, vI, vA, Value.category, maxLocals]; done) | rfl
def Q_ini4 (Z : State) (a1 : Addr) (b1 : Addr) (u1 : Value) (u2 : Value) (h0 : Heap) (v : Option Value) (h : Heap) : Prop := v = none ∧ StrA Z h a1 []
def rm_ini4 : Room := { frames := 1, cells := 4, slots := 8, locals := 12 }
set_option maxRecDepth 65536 in
set_option maxHeartbeats 40000000 in
theorem ct_ini4 {l : Launch} {Z : State} {a0 : Array Value} (H : Ev Z a0) (a1 : Addr) (b1 : Addr) (u1 : Value) (u2 : Value) {h0 : Heap} {n0 : Nat} (O0 : Old Z n0 h0) (E1 : Exa Z h0 a1 "java/lang/String") (g_a1 : n0 ≤ a1) (z_a1 : a1 < h0.size) (F_value : Fld Z h0 a1 "java/lang/String" "value" "[B" u1) (F_coder : Fld Z h0 a1 "java/lang/String" "coder" "B" u2) : CtrW l Z EL (⟨"java/lang/String", "<init>", "([CIILjava/lang/Void;)V"⟩ : MethodName) jdk_42_method_149_code 6 none [] rm_ini4 #[(.ref a1), (.ref b1), (.int (0 : Int32)), (.int (0 : Int32)), .null] h0 [a1] n0 (Q_ini4 Z a1 b1 u1 u2 h0) := by
  refine enterW (a0 := a0) (plainFor_of_name pn_13) (elA H) O0 (allS ⟨g_a1, z_a1⟩ all0) ?_
  intro p e s m below meth c T0 hx hby hml hrt hnm hlk hh0 A0
  replace A0 : Wk true Z a0 EL n0 h0 [a1] "java/lang/String" p l e rm_ini4 s m #[(.ref a1), (.ref b1), (.int (0 : Int32)), (.int (0 : Int32)), .null] below meth c [a1] T0 h0 0 0 := A0
  refine Run.st (T0.setTop (mkF m 0 #[vA a1, vA b1, vI 0, vI 0, .val .null, .unset] [])) (fun _ k => castTop (ef_ini4 m a1 b1 (0 : Int32) (0 : Int32)) k) ?_
  refine Run.st (T0.setTop (mkF m 1 #[vA a1, vA b1, vI 0, vI 0, .val .null, .unset] [(.ref a1)])) (fun _ k => XS.aloadN A0.here hx rfl (hb hby d25_0) rfl rfl k) ?_
  obtain ⟨T162, A162, st162⟩ := A0.initO hx (tw11 H.1) (tw12 H.1) (tw13 H.1) (g := (mkF m 1 #[vA a1, vA b1, vI 0, vI 0, .val .null, .unset] [(.ref a1)])) rfl (by rw [hml]; rfl) rfl (hb hby d25_1) (by decide) (Wd := 0) (Nat.le_refl _) (by decide)
  refine Run.st (T162.setTop (mkF m 4 #[vA a1, vA b1, vI 0, vI 0, .val .null, .unset] [])) st162 ?_
  refine Run.st (T162.setTop (mkF m 9 #[vA a1, vA b1, vI 0, vI 0, .val .null, .unset] [(.ref a1)])) (fun _ k => XS.iloadN A162.here hx rfl (hb hby d25_4) rfl (XS.ifNo A162.here hx rfl (hb hby d25_5) rfl (by decide) (XS.aloadN A162.here hx rfl (hb hby d25_8) rfl rfl k))) ?_
  obtain ⟨a163, b163, kA163, T163, h163, A163, E163, Ex163, Fc163, Fv163, Va163, ne163, st163⟩ := A162.ldc hx (tw14 H.1) (strsA H) (List.mem_of_getElem? (i := 0) rfl) (vs := (([] : List Int32).map fun c => c.toInt8.toInt32).map Value.int) (z := (0 : Int32)) ⟨by decide, by decide +kernel⟩ (by decide) (by decide +kernel) (g := (mkF m 9 #[vA a1, vA b1, vI 0, vI 0, .val .null, .unset] [(.ref a1)])) rfl (hb hby d25_9) (q := 0) (by decide) (by decide) (by decide) (by decide)
  have S163 : StrA Z h163 a163 [] := ⟨Ex163, Fc163, ⟨b163, kA163, Fv163, Va163⟩, by decide, by decide⟩
  refine Run.st (T163.setTop (mkF m 11 #[vA a1, vA b1, vI 0, vI 0, .val .null, .unset] [(.ref a163), (.ref a1)])) st163 ?_
  obtain ⟨T164, A164, st164⟩ := A163.getF hx (tw20 H.1) Via.refl Fv163 (g := (mkF m 11 #[vA a1, vA b1, vI 0, vI 0, .val .null, .unset] [(.ref a163), (.ref a1)])) rfl rfl (hb hby d25_11)
  refine Run.st (T164.setTop (mkF m 14 #[vA a1, vA b1, vI 0, vI 0, .val .null, .unset] [(.ref b163), (.ref a1)])) st164 ?_
  have X166 : Ext h0 h163 := E163
  have f167 := F_value.ext X166
  have f168 := E1.ext X166
  obtain ⟨T165, h165, A165, K165, W165, st165⟩ := A164.putF hx (tw20 H.1) Via.refl (a := a1) (List.mem_of_getElem? (i := 0) rfl) (v' := (.ref b163)) f167 f168 (Or.inr ⟨(tw16 H.1), rfl, hnm⟩) (tw2 H.1) (ty := (.array .byte)) (by decide) rfl rfl (g := (mkF m 14 #[vA a1, vA b1, vI 0, vI 0, .val .null, .unset] [(.ref b163), (.ref a1)])) rfl rfl (hb hby d25_14)
  have F165 : Fld Z h165 a1 "java/lang/String" "value" "[B" (.ref b163) := f167.same W165
  refine Run.st (T165.setTop (mkF m 17 #[vA a1, vA b1, vI 0, vI 0, .val .null, .unset] [])) st165 ?_
  refine Run.st (T165.setTop (mkF m 18 #[vA a1, vA b1, vI 0, vI 0, .val .null, .unset] [(.ref a1)])) (fun _ k => XS.aloadN A165.here hx rfl (hb hby d25_17) rfl rfl k) ?_
  obtain ⟨a169, b169, kA169, T169, h169, A169, E169, Ex169, Fc169, Fv169, Va169, ne169, st169⟩ := A165.ldc hx (tw14 H.1) (strsA H) (List.mem_of_getElem? (i := 0) rfl) (vs := (([] : List Int32).map fun c => c.toInt8.toInt32).map Value.int) (z := (0 : Int32)) ⟨by decide, by decide +kernel⟩ (by decide) (by decide +kernel) (g := (mkF m 18 #[vA a1, vA b1, vI 0, vI 0, .val .null, .unset] [(.ref a1)])) rfl (hb hby d25_18) (q := 0) (by decide) (by decide) (by decide) (by decide)
  have S169 : StrA Z h169 a169 [] := ⟨Ex169, Fc169, ⟨b169, kA169, Fv169, Va169⟩, by decide, by decide⟩
  refine Run.st (T169.setTop (mkF m 20 #[vA a1, vA b1, vI 0, vI 0, .val .null, .unset] [(.ref a169), (.ref a1)])) st169 ?_
  obtain ⟨T170, A170, st170⟩ := A169.getF hx (tw21 H.1) Via.refl Fc169 (g := (mkF m 20 #[vA a1, vA b1, vI 0, vI 0, .val .null, .unset] [(.ref a169), (.ref a1)])) rfl rfl (hb hby d25_20)
  refine Run.st (T170.setTop (mkF m 23 #[vA a1, vA b1, vI 0, vI 0, .val .null, .unset] [.int 0, (.ref a1)])) st170 ?_
  have f172 := (((F_coder.ext E163).other W165 (Or.inr (slot_ne (Or.inr (tw17 H.1)) (Or.inr (tw16 H.1)) (by decide) (t := .byte) (t' := (.array .byte)) (by decide) (by decide)))).ext E169)
  have f173 := (((E1.ext E163).wr W165).ext E169)
  obtain ⟨T171, h171, A171, K171, W171, st171⟩ := A170.putF hx (tw21 H.1) Via.refl (a := a1) (List.mem_of_getElem? (i := 0) rfl) (v' := (.int (0 : Int32))) f172 f173 (Or.inr ⟨(tw17 H.1), rfl, hnm⟩) (tw2 H.1) (ty := .byte) (by decide) rfl rfl (g := (mkF m 23 #[vA a1, vA b1, vI 0, vI 0, .val .null, .unset] [.int 0, (.ref a1)])) rfl rfl (hb hby d25_23)
  have F171 : Fld Z h171 a1 "java/lang/String" "coder" "B" (.int (0 : Int32)) := f172.same W171
  refine Run.st (T171.setTop (mkF m 26 #[vA a1, vA b1, vI 0, vI 0, .val .null, .unset] [])) st171 ?_
  have f174 := ((((E1.ext E163).wr W165).ext E169).wr W171)
  have f175 := ((F165.ext E169).other W171 (Or.inr (slot_ne (Or.inr (tw16 H.1)) (Or.inr (tw17 H.1)) (by decide) (t := (.array .byte)) (t' := .byte) (by decide) (by decide))))
  have f176 := (((Va163.keep K165 (ninS (Ne.symm (ne163 a1 (List.mem_of_getElem? (i := 0) rfl)).2) nin0)).ext E169).keep K171 (ninS (Ne.symm (ne163 a1 (List.mem_of_getElem? (i := 0) rfl)).2) nin0))
  exact A171.leaveW hlk hh0 none (fun _ => rfl) (by decide) (by decide) ⟨rfl, f174, F171, ⟨_, _, f175, f176⟩, chs0, by decide⟩ (fun X hr => X.returnOut hx hrt (hb hby d25_26) hr)
theorem ef_ini1 (m : MethodId) (y0 : Addr) (y1 : Addr) : entryFrame m #[(.ref y0), (.ref y1)] 2 = mkF m 0 #[vA y0, vA y1] [] := by first | (simp [entryFrame, mkF, argsToLocals, vI, vA, Value.category, maxLocals]; done) | rfl
def Q_ini1 (Z : State) (a1 : Addr) (b1 : Addr) (u1 : Value) (u2 : Value) (kC : ClassId) (dv : Value) (h0 : Heap) (v : Option Value) (h : Heap) : Prop := v = none ∧ StrA Z h a1 []
def rm_ini1 : Room := { frames := 2, cells := 4, slots := 8, locals := 29 }
set_option maxRecDepth 65536 in
set_option maxHeartbeats 40000000 in
theorem ct_ini1 {l : Launch} {Z : State} {a0 : Array Value} (H : Ev Z a0) (a1 : Addr) (b1 : Addr) (u1 : Value) (u2 : Value) (kC : ClassId) (dv : Value) {h0 : Heap} {n0 : Nat} (O0 : Old Z n0 h0) (E1 : Exa Z h0 a1 "java/lang/String") (g_a1 : n0 ≤ a1) (z_a1 : a1 < h0.size) (F_value : Fld Z h0 a1 "java/lang/String" "value" "[B" u1) (F_coder : Fld Z h0 a1 "java/lang/String" "coder" "B" u2) (Vb1 : Arv Z h0 b1 kC .char (0 : Int32) [] dv) : CtrW l Z EL (⟨"java/lang/String", "<init>", "([C)V"⟩ : MethodName) jdk_42_method_3_code 2 none [] rm_ini1 #[(.ref a1), (.ref b1)] h0 [a1] n0 (Q_ini1 Z a1 b1 u1 u2 kC dv h0) := by
  refine enterW (a0 := a0) (plainFor_of_name pn_13) (elA H) O0 (allS ⟨g_a1, z_a1⟩ all0) ?_
  intro p e s m below meth c T0 hx hby hml hrt hnm hlk hh0 A0
  replace A0 : Wk true Z a0 EL n0 h0 [a1] "java/lang/String" p l e rm_ini1 s m #[(.ref a1), (.ref b1)] below meth c [a1] T0 h0 0 0 := A0
  refine Run.st (T0.setTop (mkF m 0 #[vA a1, vA b1] [])) (fun _ k => castTop (ef_ini1 m a1 b1) k) ?_
  refine Run.st (T0.setTop (mkF m 4 #[vA a1, vA b1] [(.ref b1), .int 0, (.ref b1), (.ref a1)])) (fun _ k => XS.aloadN A0.here hx rfl (hb hby d26_0) rfl rfl (XS.aloadN A0.here hx rfl (hb hby d26_1) rfl rfl (XS.iconst A0.here hx rfl (hb hby d26_2) (XS.aloadN A0.here hx rfl (hb hby d26_3) rfl rfl k)))) ?_
  refine Run.st (T0.setTop (mkF m 5 #[vA a1, vA b1] [.int 0, .int 0, (.ref b1), (.ref a1)])) (A0.alen hx Vb1 (g := (mkF m 4 #[vA a1, vA b1] [(.ref b1), .int 0, (.ref b1), (.ref a1)])) rfl rfl (hb hby d26_4)) ?_
  refine Run.st (T0.setTop (mkF m 6 #[vA a1, vA b1] [.null, .int 0, .int 0, (.ref b1), (.ref a1)])) (fun _ k => XS.aconstNull A0.here hx rfl (hb hby d26_5) k) ?_
  obtain ⟨v177, T177, h177, A177, K177, ⟨L177, Q177⟩, st177⟩ := A0.callIW hx (y := (⟨"java/lang/String", "<init>", "([CIILjava/lang/Void;)V"⟩ : MethodName)) rfl (tw7 H.1) (tw8 H.1) (tw10 H.1) (by decide) (g := (mkF m 6 #[vA a1, vA b1] [.null, .int 0, .int 0, (.ref b1), (.ref a1)])) rfl (by rw [hml]; rfl) a1 [(.ref b1), (.int (0 : Int32)), (.int (0 : Int32)), .null] [] (lenOf pd_14 rfl) rfl (Wd := 0) (Nat.le_refl _) (hb hby d26_6) (by decide) (by decide) [a1] (fun _ _ _ q => q.2) (allS (List.mem_of_getElem? (i := 0) rfl) all0) (fun vm0 hZ hE hC hS => payW (ct_ini4 H a1 b1 u1 u2 A0.old E1 (A0.nle (List.mem_of_getElem? (i := 0) rfl)) E1.lt F_value F_coder) (tw10 H.1) (tw3 H.1) (by decide) (by decide) hZ hE hC hS)
  obtain ⟨Q177, N177, -⟩ := Q177
  obtain ⟨rfl, S177⟩ := Q177
  refine Run.st (T177.setTop (mkF m 9 #[vA a1, vA b1] [])) st177 ?_
  exact A177.leaveW hlk hh0 none (fun _ => rfl) (by decide) (by decide) ⟨rfl, S177⟩ (fun X hr => X.returnOut hx hrt (hb hby d26_9) hr)
theorem ef_law (m : MethodId) (y0 : Int32) (y1 : Int32) (y2 : Int32) (y3 : Int32) : entryFrame m #[(.int y0), (.int y1), (.int y2), (.int y3)] maxLocals = mkF m 0 #[vI y0, vI y1, vI y2, vI y3, .unset, .unset, .unset, .unset, .unset, .unset, .unset, .unset, .unset, .unset] [] := by first | (simp [entryFrame, mkF, argsToLocals, vI, vA, Value.category, maxLocals]; done) | rfl
def Q_law (Z : State) (p0 : Int32) (p1 : Int32) (p2 : Int32) (p3 : Int32) (h0 : Heap) (v : Option Value) (h : Heap) : Prop := v = some (.int 1)
set_option maxRecDepth 65536 in
set_option maxHeartbeats 40000000 in
theorem ct_law {l : Launch} {Z : State} {a0 : Array Value} (H : Ev Z a0) (p0 : Int32) (p1 : Int32) (p2 : Int32) (p3 : Int32) {h0 : Heap} {n0 : Nat} (O0 : Old Z n0 h0) : CtrW l Z EL x code maxLocals ret tables_1 room_1 #[(.int p0), (.int p1), (.int p2), (.int p3)] h0 [] n0 (Q_law Z p0 p1 p2 p3 h0) := by
  refine enterW (a0 := a0) (plainFor_of_name pn_14) (elA H) O0 all0 ?_
  intro p e s m below meth c T0 hx hby hml hrt hnm hlk hh0 A0
  replace A0 : Wk true Z a0 EL n0 h0 [] "com/example/gate_to_handlers/gatetohandlers/HttpEntityHasBodyPinLaw" p l e room_1 s m #[(.int p0), (.int p1), (.int p2), (.int p3)] below meth c [] T0 h0 0 0 := A0
  refine Run.st (T0.setTop (mkF m 0 #[vI p0, vI p1, vI p2, vI p3, .unset, .unset, .unset, .unset, .unset, .unset, .unset, .unset, .unset, .unset] [])) (fun _ k => castTop (ef_law m p0 p1 p2 p3) k) ?_
  refine Run.st (T0.setTop (mkF m 1 #[vI p0, vI p1, vI p2, vI p3, .unset, .unset, .unset, .unset, .unset, .unset, .unset, .unset, .unset, .unset] [.int 0])) (fun _ k => XS.iconst A0.here hx rfl (hb hby at_0) k) ?_
  obtain ⟨a178, T178, h178, kA178, A178, E178, g178, V178, st178⟩ := A0.newP hx (aty := .char) (N := (0 : Int32)) (tw0 H.1) (g := (mkF m 1 #[vI p0, vI p1, vI p2, vI p3, .unset, .unset, .unset, .unset, .unset, .unset, .unset, .unset, .unset, .unset] [.int 0])) rfl (hb hby at_1) rfl (by decide) (cap := 0) (by decide) (by decide) (by decide) (by decide)
  refine Run.st (T178.setTop (mkF m 3 #[vI p0, vI p1, vI p2, vI p3, .unset, .unset, .unset, .unset, .unset, .unset, .unset, .unset, .unset, .unset] [(.ref a178)])) st178 ?_
  refine Run.st (T178.setTop (mkF m 6 #[vI p0, vI p1, vI p2, vI p3, vA a178, .unset, .unset, .unset, .unset, .unset, .unset, .unset, .unset, .unset] [.int 1])) (fun _ k => XS.astore A178.here hx rfl (hb hby at_3) rfl rfl (l' := #[vI p0, vI p1, vI p2, vI p3, vA a178, .unset, .unset, .unset, .unset, .unset, .unset, .unset, .unset, .unset]) rfl (XS.iconst A178.here hx rfl (hb hby at_5) k)) ?_
  obtain ⟨a179, T179, h179, kA179, A179, E179, g179, V179, st179⟩ := A178.newP hx (aty := .char) (N := (1 : Int32)) (tw0 H.1) (g := (mkF m 6 #[vI p0, vI p1, vI p2, vI p3, vA a178, .unset, .unset, .unset, .unset, .unset, .unset, .unset, .unset, .unset] [.int 1])) rfl (hb hby at_6) rfl (by decide) (cap := 1) (by decide) (by decide) (by decide) (by decide)
  refine Run.st (T179.setTop (mkF m 8 #[vI p0, vI p1, vI p2, vI p3, vA a178, .unset, .unset, .unset, .unset, .unset, .unset, .unset, .unset, .unset] [(.ref a179)])) st179 ?_
  refine Run.st (T179.setTop (mkF m 19 #[vI p0, vI p1, vI p2, vI p3, vA a178, vA a179, .unset, .unset, .unset, .unset, .unset, .unset, .unset, .unset] [.int ((p2 &&& (255 : Int32)).toUInt32.toUInt16.toUInt32.toInt32), .int 0, (.ref a179)])) (fun _ k => XS.astore A179.here hx rfl (hb hby at_8) rfl rfl (l' := #[vI p0, vI p1, vI p2, vI p3, vA a178, vA a179, .unset, .unset, .unset, .unset, .unset, .unset, .unset, .unset]) rfl (XS.aload A179.here hx rfl (hb hby at_10) rfl rfl (XS.iconst A179.here hx rfl (hb hby at_12) (XS.iloadN A179.here hx rfl (hb hby at_13) rfl (XS.sipush A179.here hx rfl (hb hby at_14) (XS.iand A179.here hx rfl (hb hby at_17) rfl (XS.i2c A179.here hx rfl (hb hby at_18) rfl k))))))) ?_
  obtain ⟨T180, h180, A180, K180, V180, st180⟩ := A179.stC hx V179 (List.mem_of_getElem? (i := 0) rfl) (j := (0 : Int32)) 0 rfl ⟨by decide, by decide⟩ (Nat.le_of_ble_eq_true rfl) (g := (mkF m 19 #[vI p0, vI p1, vI p2, vI p3, vA a178, vA a179, .unset, .unset, .unset, .unset, .unset, .unset, .unset, .unset] [.int ((p2 &&& (255 : Int32)).toUInt32.toUInt16.toUInt32.toInt32), .int 0, (.ref a179)])) rfl rfl (hb hby at_19)
  refine Run.st (T180.setTop (mkF m 20 #[vI p0, vI p1, vI p2, vI p3, vA a178, vA a179, .unset, .unset, .unset, .unset, .unset, .unset, .unset, .unset] [])) st180 ?_
  refine Run.st (T180.setTop (mkF m 21 #[vI p0, vI p1, vI p2, vI p3, vA a178, vA a179, .unset, .unset, .unset, .unset, .unset, .unset, .unset, .unset] [.int 2])) (fun _ k => XS.iconst A180.here hx rfl (hb hby at_20) k) ?_
  obtain ⟨a181, T181, h181, kA181, A181, E181, g181, V181, st181⟩ := A180.newP hx (aty := .char) (N := (2 : Int32)) (tw0 H.1) (g := (mkF m 21 #[vI p0, vI p1, vI p2, vI p3, vA a178, vA a179, .unset, .unset, .unset, .unset, .unset, .unset, .unset, .unset] [.int 2])) rfl (hb hby at_21) rfl (by decide) (cap := 2) (by decide) (by decide) (by decide) (by decide)
  refine Run.st (T181.setTop (mkF m 23 #[vI p0, vI p1, vI p2, vI p3, vA a178, vA a179, .unset, .unset, .unset, .unset, .unset, .unset, .unset, .unset] [(.ref a181)])) st181 ?_
  refine Run.st (T181.setTop (mkF m 34 #[vI p0, vI p1, vI p2, vI p3, vA a178, vA a179, vA a181, .unset, .unset, .unset, .unset, .unset, .unset, .unset] [.int ((p2 &&& (255 : Int32)).toUInt32.toUInt16.toUInt32.toInt32), .int 0, (.ref a181)])) (fun _ k => XS.astore A181.here hx rfl (hb hby at_23) rfl rfl (l' := #[vI p0, vI p1, vI p2, vI p3, vA a178, vA a179, vA a181, .unset, .unset, .unset, .unset, .unset, .unset, .unset]) rfl (XS.aload A181.here hx rfl (hb hby at_25) rfl rfl (XS.iconst A181.here hx rfl (hb hby at_27) (XS.iloadN A181.here hx rfl (hb hby at_28) rfl (XS.sipush A181.here hx rfl (hb hby at_29) (XS.iand A181.here hx rfl (hb hby at_32) rfl (XS.i2c A181.here hx rfl (hb hby at_33) rfl k))))))) ?_
  obtain ⟨T182, h182, A182, K182, V182, st182⟩ := A181.stC hx V181 (List.mem_of_getElem? (i := 0) rfl) (j := (0 : Int32)) 0 rfl ⟨by decide, by decide⟩ (Nat.le_of_ble_eq_true rfl) (g := (mkF m 34 #[vI p0, vI p1, vI p2, vI p3, vA a178, vA a179, vA a181, .unset, .unset, .unset, .unset, .unset, .unset, .unset] [.int ((p2 &&& (255 : Int32)).toUInt32.toUInt16.toUInt32.toInt32), .int 0, (.ref a181)])) rfl rfl (hb hby at_34)
  refine Run.st (T182.setTop (mkF m 35 #[vI p0, vI p1, vI p2, vI p3, vA a178, vA a179, vA a181, .unset, .unset, .unset, .unset, .unset, .unset, .unset] [])) st182 ?_
  refine Run.st (T182.setTop (mkF m 44 #[vI p0, vI p1, vI p2, vI p3, vA a178, vA a179, vA a181, .unset, .unset, .unset, .unset, .unset, .unset, .unset] [.int ((p3 &&& (255 : Int32)).toUInt32.toUInt16.toUInt32.toInt32), .int 1, (.ref a181)])) (fun _ k => XS.aload A182.here hx rfl (hb hby at_35) rfl rfl (XS.iconst A182.here hx rfl (hb hby at_37) (XS.iloadN A182.here hx rfl (hb hby at_38) rfl (XS.sipush A182.here hx rfl (hb hby at_39) (XS.iand A182.here hx rfl (hb hby at_42) rfl (XS.i2c A182.here hx rfl (hb hby at_43) rfl k)))))) ?_
  obtain ⟨T183, h183, A183, K183, V183, st183⟩ := A182.stC hx V182 (List.mem_of_getElem? (i := 0) rfl) (j := (1 : Int32)) 1 rfl ⟨by decide, by decide⟩ (Nat.le_of_ble_eq_true rfl) (g := (mkF m 44 #[vI p0, vI p1, vI p2, vI p3, vA a178, vA a179, vA a181, .unset, .unset, .unset, .unset, .unset, .unset, .unset] [.int ((p3 &&& (255 : Int32)).toUInt32.toUInt16.toUInt32.toInt32), .int 1, (.ref a181)])) rfl rfl (hb hby at_44)
  refine Run.st (T183.setTop (mkF m 45 #[vI p0, vI p1, vI p2, vI p3, vA a178, vA a179, vA a181, .unset, .unset, .unset, .unset, .unset, .unset, .unset] [])) st183 ?_
  refine Run.st (T183.setTop (mkF m 56 #[vI p0, vI p1, vI p2, vI p3, vA a178, vA a179, vA a181, vI ((XT.ushr p1 (4 : Int32)) - ((XT.ushr p1 (4 : Int32)) / (3 : Int32)) * (3 : Int32)), .val .null, .unset, .unset, .unset, .unset, .unset] [.int p1])) (fun _ k => XS.iloadN A183.here hx rfl (hb hby at_45) rfl (XS.iconst A183.here hx rfl (hb hby at_46) (XT.iushr A183.here hx rfl (hb hby at_47) rfl (XS.iconst A183.here hx rfl (hb hby at_48) (XS.irem A183.here hx rfl (hb hby at_49) rfl (by decide) (XS.istore A183.here hx rfl (hb hby at_50) rfl (l' := #[vI p0, vI p1, vI p2, vI p3, vA a178, vA a179, vA a181, vI ((XT.ushr p1 (4 : Int32)) - ((XT.ushr p1 (4 : Int32)) / (3 : Int32)) * (3 : Int32)), .unset, .unset, .unset, .unset, .unset, .unset]) rfl (XS.aconstNull A183.here hx rfl (hb hby at_52) (XS.astore A183.here hx rfl (hb hby at_53) rfl rfl (l' := #[vI p0, vI p1, vI p2, vI p3, vA a178, vA a179, vA a181, vI ((XT.ushr p1 (4 : Int32)) - ((XT.ushr p1 (4 : Int32)) / (3 : Int32)) * (3 : Int32)), .val .null, .unset, .unset, .unset, .unset, .unset]) rfl (XS.iloadN A183.here hx rfl (hb hby at_55) rfl k))))))))) ?_
  refine Run.st (T183.setTop (mkF m 58 #[vI p0, vI p1, vI p2, vI p3, vA a178, vA a179, vA a181, vI ((XT.ushr p1 (4 : Int32)) - ((XT.ushr p1 (4 : Int32)) / (3 : Int32)) * (3 : Int32)), .val .null, .unset, .unset, .unset, .unset, .unset] [.int (p1 &&& (1 : Int32))])) (fun _ k => XS.iconst A183.here hx rfl (hb hby at_56) (XS.iand A183.here hx rfl (hb hby at_57) rfl k)) ?_
  by_cases c184 : (p1 &&& (1 : Int32)) = (0 : Int32)
  · refine Run.st (T183.setTop (mkF m 117 #[vI p0, vI p1, vI p2, vI p3, vA a178, vA a179, vA a181, vI ((XT.ushr p1 (4 : Int32)) - ((XT.ushr p1 (4 : Int32)) / (3 : Int32)) * (3 : Int32)), .val .null, .val .null, .unset, .unset, .unset, .unset] [.int (p1 &&& (2 : Int32))])) (fun _ k => XS.ifYes A183.here hx rfl (pc0 := 58) (pc' := 111) rfl (hb hby at_58) rfl (by rw [if0]; exact (teq c184).1) (by decide) (by decide) (XS.aconstNull A183.here hx rfl (hb hby at_111) (XS.astore A183.here hx rfl (hb hby at_112) rfl rfl (l' := #[vI p0, vI p1, vI p2, vI p3, vA a178, vA a179, vA a181, vI ((XT.ushr p1 (4 : Int32)) - ((XT.ushr p1 (4 : Int32)) / (3 : Int32)) * (3 : Int32)), .val .null, .val .null, .unset, .unset, .unset, .unset]) rfl (XS.iloadN A183.here hx rfl (hb hby at_114) rfl (XS.iconst A183.here hx rfl (hb hby at_115) (XS.iand A183.here hx rfl (hb hby at_116) rfl k)))))) ?_
    by_cases c185 : (p1 &&& (2 : Int32)) = (0 : Int32)
    · refine Run.st (T183.setTop (mkF m 136 #[vI p0, vI p1, vI p2, vI p3, vA a178, vA a179, vA a181, vI ((XT.ushr p1 (4 : Int32)) - ((XT.ushr p1 (4 : Int32)) / (3 : Int32)) * (3 : Int32)), .val .null, .val .null, vI (p0 &&& (3 : Int32)), .unset, .unset, .unset] [.int (p0 &&& (3 : Int32))])) (fun _ k => XS.ifYes A183.here hx rfl (pc0 := 117) (pc' := 129) rfl (hb hby at_117) rfl (by rw [if0]; exact (teq c185).1) (by decide) (by decide) (XS.iloadN A183.here hx rfl (hb hby at_129) rfl (XS.iconst A183.here hx rfl (hb hby at_130) (XS.iand A183.here hx rfl (hb hby at_131) rfl (XS.istore A183.here hx rfl (hb hby at_132) rfl (l' := #[vI p0, vI p1, vI p2, vI p3, vA a178, vA a179, vA a181, vI ((XT.ushr p1 (4 : Int32)) - ((XT.ushr p1 (4 : Int32)) / (3 : Int32)) * (3 : Int32)), .val .null, .val .null, vI (p0 &&& (3 : Int32)), .unset, .unset, .unset]) rfl (XS.iload A183.here hx rfl (hb hby at_134) rfl k)))))) ?_
      by_cases c186 : (p0 &&& (3 : Int32)) = (0 : Int32)
      · refine Run.st (T183.setTop (mkF m 139 #[vI p0, vI p1, vI p2, vI p3, vA a178, vA a179, vA a181, vI ((XT.ushr p1 (4 : Int32)) - ((XT.ushr p1 (4 : Int32)) / (3 : Int32)) * (3 : Int32)), .val .null, .val .null, vI (p0 &&& (3 : Int32)), .unset, .unset, .unset] [])) (fun _ k => XS.ifNo A183.here hx rfl (hb hby at_136) rfl (by rw [if0]; exact (teq c186).2) k) ?_
        obtain ⟨a187, T187, h187, A187, E187, g187, Ex187, D187, st187⟩ := A183.newO hx (tw54 H.1) (tw55 H.1) (tw56 H.1) (g := (mkF m 139 #[vI p0, vI p1, vI p2, vI p3, vA a178, vA a179, vA a181, vI ((XT.ushr p1 (4 : Int32)) - ((XT.ushr p1 (4 : Int32)) / (3 : Int32)) * (3 : Int32)), .val .null, .val .null, vI (p0 &&& (3 : Int32)), .unset, .unset, .unset] [])) rfl (hb hby at_139) (by decide) (by decide)
        refine Run.st (T187.setTop (mkF m 142 #[vI p0, vI p1, vI p2, vI p3, vA a178, vA a179, vA a181, vI ((XT.ushr p1 (4 : Int32)) - ((XT.ushr p1 (4 : Int32)) / (3 : Int32)) * (3 : Int32)), .val .null, .val .null, vI (p0 &&& (3 : Int32)), .unset, .unset, .unset] [(.ref a187)])) st187 ?_
        refine Run.st (T187.setTop (mkF m 143 #[vI p0, vI p1, vI p2, vI p3, vA a178, vA a179, vA a181, vI ((XT.ushr p1 (4 : Int32)) - ((XT.ushr p1 (4 : Int32)) / (3 : Int32)) * (3 : Int32)), .val .null, .val .null, vI (p0 &&& (3 : Int32)), .unset, .unset, .unset] [(.ref a187), (.ref a187)])) (fun _ k => XS.dup A187.here hx rfl (hb hby at_142) rfl rfl k) ?_
        have F189 : Fld Z h187 a187 "com/example/gate_to_handlers/gatetohandlers/HttpEntity" "body" "Ljava/lang/Object;" .null := D187 (Or.inr (tw65 H.1)) (ty := (.object "java/lang/Object")) (by decide)
        have F190 : Fld Z h187 a187 "com/example/gate_to_handlers/gatetohandlers/HttpEntity" "headers" "Lcom/example/gate_to_handlers/gatetohandlers/HttpHeaders;" .null := D187 (Or.inr (tw199 H.1)) (ty := (.object "com/example/gate_to_handlers/gatetohandlers/HttpHeaders")) (by decide)
        obtain ⟨v188, T188, h188, AA188, K188, ⟨L188, Q188⟩, st188⟩ := A187.callI hx (y := (⟨"com/example/gate_to_handlers/gatetohandlers/HttpEntity", "<init>", "()V"⟩ : MethodName)) rfl (tw57 H.1) (tw58 H.1) (tw59 H.1) (by decide) (g := (mkF m 143 #[vI p0, vI p1, vI p2, vI p3, vA a178, vA a179, vA a181, vI ((XT.ushr p1 (4 : Int32)) - ((XT.ushr p1 (4 : Int32)) / (3 : Int32)) * (3 : Int32)), .val .null, .val .null, vI (p0 &&& (3 : Int32)), .unset, .unset, .unset] [(.ref a187), (.ref a187)])) rfl (by rw [hml]; rfl) a187 [] [(.ref a187)] (lenOf pd_0 rfl) rfl (Wd := 1) (Nat.le_refl _) (hb hby at_143) (by decide) (by decide) [a187] (fun _ _ _ q => q.2) (allS (List.mem_of_getElem? (i := 0) rfl) all0) (fun vm0 hZ => payN (ct_he0 H a187 .null .null A187.old Ex187 (A187.nle (List.mem_of_getElem? (i := 0) rfl)) Ex187.lt F189 F190) (tw59 H.1) (tw56 H.1) (by decide) (by decide) hZ)
        obtain ⟨Q188, N188, -⟩ := Q188
        obtain ⟨rfl, Ec188, Ff188⟩ := Q188
        have A188 := AA188 [] all0
        refine Run.st (T188.setTop (mkF m 146 #[vI p0, vI p1, vI p2, vI p3, vA a178, vA a179, vA a181, vI ((XT.ushr p1 (4 : Int32)) - ((XT.ushr p1 (4 : Int32)) / (3 : Int32)) * (3 : Int32)), .val .null, .val .null, vI (p0 &&& (3 : Int32)), .unset, .unset, .unset] [(.ref a187)])) st188 ?_
        refine Run.st (T188.setTop (mkF m 236 #[vI p0, vI p1, vI p2, vI p3, vA a178, vA a179, vA a181, vI ((XT.ushr p1 (4 : Int32)) - ((XT.ushr p1 (4 : Int32)) / (3 : Int32)) * (3 : Int32)), .val .null, .val .null, vI (p0 &&& (3 : Int32)), vA a187, vI 0, .unset] [(.ref a187)])) (fun _ k => XS.astore A188.here hx rfl (hb hby at_146) rfl rfl (l' := #[vI p0, vI p1, vI p2, vI p3, vA a178, vA a179, vA a181, vI ((XT.ushr p1 (4 : Int32)) - ((XT.ushr p1 (4 : Int32)) / (3 : Int32)) * (3 : Int32)), .val .null, .val .null, vI (p0 &&& (3 : Int32)), vA a187, .unset, .unset]) rfl (XS.iconst A188.here hx rfl (hb hby at_148) (XS.istore A188.here hx rfl (hb hby at_149) rfl (l' := #[vI p0, vI p1, vI p2, vI p3, vA a178, vA a179, vA a181, vI ((XT.ushr p1 (4 : Int32)) - ((XT.ushr p1 (4 : Int32)) / (3 : Int32)) * (3 : Int32)), .val .null, .val .null, vI (p0 &&& (3 : Int32)), vA a187, vI 0, .unset]) rfl (XS.goto A188.here hx rfl (pc0 := 151) (pc' := 234) rfl (hb hby at_151) (by decide) (by decide) (XS.aload A188.here hx rfl (hb hby at_234) rfl rfl k))))) ?_
        obtain ⟨v191, T191, h191, AA191, K191, ⟨L191, Q191⟩, st191⟩ := A188.callV hx (y := (⟨"com/example/gate_to_handlers/gatetohandlers/HttpEntity", "hasBody", "()Z"⟩ : MethodName)) (z := (⟨"com/example/gate_to_handlers/gatetohandlers/HttpEntity", "hasBody", "()Z"⟩ : MethodName)) (tw200 H.1) (tw201 H.1) (tw203 H.1) (tw202 H.1) (nfSel (tw203 H.1)) (by decide) Ec188 (g := (mkF m 236 #[vI p0, vI p1, vI p2, vI p3, vA a178, vA a179, vA a181, vI ((XT.ushr p1 (4 : Int32)) - ((XT.ushr p1 (4 : Int32)) / (3 : Int32)) * (3 : Int32)), .val .null, .val .null, vI (p0 &&& (3 : Int32)), vA a187, vI 0, .unset] [(.ref a187)])) rfl (by rw [hml]; rfl) [] [] (lenOf pd_9 rfl) rfl (Wd := 0) (Nat.le_refl _) (hb hby at_236) (by decide) (by decide) [] (fun _ _ _ q => q.2) all0 (fun vm0 hZ => payN (ct_hb_n H a187 A188.old Ff188) (tw204 H.1) (tw56 H.1) (by decide) (by decide) hZ)
        obtain ⟨Q191, N191, -⟩ := Q191
        obtain ⟨rfl, q191⟩ := Q191
        have q191 := q191.symm
        subst q191
        have A191 := AA191 [] all0
        refine Run.st (T191.setTop (mkF m 239 #[vI p0, vI p1, vI p2, vI p3, vA a178, vA a179, vA a181, vI ((XT.ushr p1 (4 : Int32)) - ((XT.ushr p1 (4 : Int32)) / (3 : Int32)) * (3 : Int32)), .val .null, .val .null, vI (p0 &&& (3 : Int32)), vA a187, vI 0, .unset] [.int 0])) st191 ?_
        refine Run.st (T191.setTop (mkF m 252 #[vI p0, vI p1, vI p2, vI p3, vA a178, vA a179, vA a181, vI ((XT.ushr p1 (4 : Int32)) - ((XT.ushr p1 (4 : Int32)) / (3 : Int32)) * (3 : Int32)), .val .null, .val .null, vI (p0 &&& (3 : Int32)), vA a187, vI 0, vI 0] [(.ref a187), .int 0])) (fun _ k => XS.istore A191.here hx rfl (hb hby at_239) rfl (l' := #[vI p0, vI p1, vI p2, vI p3, vA a178, vA a179, vA a181, vI ((XT.ushr p1 (4 : Int32)) - ((XT.ushr p1 (4 : Int32)) / (3 : Int32)) * (3 : Int32)), .val .null, .val .null, vI (p0 &&& (3 : Int32)), vA a187, vI 0, vI 0]) rfl (XS.iload A191.here hx rfl (hb hby at_241) rfl (XS.iload A191.here hx rfl (hb hby at_243) rfl (XS.icmpNo A191.here hx rfl (hb hby at_245) rfl (by decide) (XS.iload A191.here hx rfl (hb hby at_248) rfl (XS.aload A191.here hx rfl (hb hby at_250) rfl rfl k)))))) ?_
        obtain ⟨v192, T192, h192, AA192, K192, ⟨L192, Q192⟩, st192⟩ := A191.callV hx (y := (⟨"com/example/gate_to_handlers/gatetohandlers/HttpEntity", "getBody", "()Ljava/lang/Object;"⟩ : MethodName)) (z := (⟨"com/example/gate_to_handlers/gatetohandlers/HttpEntity", "getBody", "()Ljava/lang/Object;"⟩ : MethodName)) (tw205 H.1) (tw206 H.1) (tw208 H.1) (tw207 H.1) (nfSel (tw208 H.1)) (by decide) Ec188 (g := (mkF m 252 #[vI p0, vI p1, vI p2, vI p3, vA a178, vA a179, vA a181, vI ((XT.ushr p1 (4 : Int32)) - ((XT.ushr p1 (4 : Int32)) / (3 : Int32)) * (3 : Int32)), .val .null, .val .null, vI (p0 &&& (3 : Int32)), vA a187, vI 0, vI 0] [(.ref a187), .int 0])) rfl (by rw [hml]; rfl) [] [(.int (0 : Int32))] (lenOf pd_15 rfl) rfl (Wd := 1) (Nat.le_refl _) (hb hby at_252) (by decide) (by decide) [] (fun _ _ _ q => q.2) all0 (fun vm0 hZ => payN (ct_gb_n H a187 A191.old Ff188) (tw209 H.1) (tw56 H.1) (by decide) (by decide) hZ)
        obtain ⟨Q192, N192, -⟩ := Q192
        obtain ⟨rfl, q192⟩ := Q192
        have q192 := q192.symm
        subst q192
        have A192 := AA192 [] all0
        refine Run.st (T192.setTop (mkF m 255 #[vI p0, vI p1, vI p2, vI p3, vA a178, vA a179, vA a181, vI ((XT.ushr p1 (4 : Int32)) - ((XT.ushr p1 (4 : Int32)) / (3 : Int32)) * (3 : Int32)), .val .null, .val .null, vI (p0 &&& (3 : Int32)), vA a187, vI 0, vI 0] [.null, .int 0])) st192 ?_
        refine Run.st (T192.setTop (mkF m 271 #[vI p0, vI p1, vI p2, vI p3, vA a178, vA a179, vA a181, vI ((XT.ushr p1 (4 : Int32)) - ((XT.ushr p1 (4 : Int32)) / (3 : Int32)) * (3 : Int32)), .val .null, .val .null, vI (p0 &&& (3 : Int32)), vA a187, vI 0, vI 0] [.int 1])) (fun _ k => XS.ifnullYes A192.here hx rfl (pc0 := 255) (pc' := 262) rfl (hb hby at_255) rfl (by decide) (by decide) (XS.iconst A192.here hx rfl (hb hby at_262) (XS.icmpNo A192.here hx rfl (hb hby at_263) rfl (by decide) (XS.iconst A192.here hx rfl (hb hby at_266) (XS.goto A192.here hx rfl (pc0 := 267) (pc' := 271) rfl (hb hby at_267) (by decide) (by decide) k))))) ?_
        exact A192.leaveW hlk hh0 (some (.int (1 : Int32))) (fun q => by rw [hrt] at q; cases q) (by decide) (by decide) rfl (fun X hr => retN X hx (t := .boolean) hrt (by simp) (hb hby at_271) hr)
      · refine Run.st (T183.setTop (mkF m 157 #[vI p0, vI p1, vI p2, vI p3, vA a178, vA a179, vA a181, vI ((XT.ushr p1 (4 : Int32)) - ((XT.ushr p1 (4 : Int32)) / (3 : Int32)) * (3 : Int32)), .val .null, .val .null, vI (p0 &&& (3 : Int32)), .unset, .unset, .unset] [.int 1, .int (p0 &&& (3 : Int32))])) (fun _ k => XS.ifYes A183.here hx rfl (pc0 := 136) (pc' := 154) rfl (hb hby at_136) rfl (by rw [if0]; exact (feq c186).2) (by decide) (by decide) (XS.iload A183.here hx rfl (hb hby at_154) rfl (XS.iconst A183.here hx rfl (hb hby at_156) k))) ?_
        by_cases c193 : (p0 &&& (3 : Int32)) = (1 : Int32)
        · refine Run.st (T183.setTop (mkF m 160 #[vI p0, vI p1, vI p2, vI p3, vA a178, vA a179, vA a181, vI ((XT.ushr p1 (4 : Int32)) - ((XT.ushr p1 (4 : Int32)) / (3 : Int32)) * (3 : Int32)), .val .null, .val .null, vI (p0 &&& (3 : Int32)), .unset, .unset, .unset] [])) (fun _ k => XS.icmpNo A183.here hx rfl (hb hby at_157) rfl (teq c193).2 k) ?_
          obtain ⟨a194, T194, h194, A194, E194, g194, Ex194, D194, st194⟩ := A183.newO hx (tw54 H.1) (tw55 H.1) (tw56 H.1) (g := (mkF m 160 #[vI p0, vI p1, vI p2, vI p3, vA a178, vA a179, vA a181, vI ((XT.ushr p1 (4 : Int32)) - ((XT.ushr p1 (4 : Int32)) / (3 : Int32)) * (3 : Int32)), .val .null, .val .null, vI (p0 &&& (3 : Int32)), .unset, .unset, .unset] [])) rfl (hb hby at_160) (by decide) (by decide)
          refine Run.st (T194.setTop (mkF m 163 #[vI p0, vI p1, vI p2, vI p3, vA a178, vA a179, vA a181, vI ((XT.ushr p1 (4 : Int32)) - ((XT.ushr p1 (4 : Int32)) / (3 : Int32)) * (3 : Int32)), .val .null, .val .null, vI (p0 &&& (3 : Int32)), .unset, .unset, .unset] [(.ref a194)])) st194 ?_
          refine Run.st (T194.setTop (mkF m 166 #[vI p0, vI p1, vI p2, vI p3, vA a178, vA a179, vA a181, vI ((XT.ushr p1 (4 : Int32)) - ((XT.ushr p1 (4 : Int32)) / (3 : Int32)) * (3 : Int32)), .val .null, .val .null, vI (p0 &&& (3 : Int32)), .unset, .unset, .unset] [.null, (.ref a194), (.ref a194)])) (fun _ k => XS.dup A194.here hx rfl (hb hby at_163) rfl rfl (XS.aload A194.here hx rfl (hb hby at_164) rfl rfl k)) ?_
          have F196 : Fld Z h194 a194 "com/example/gate_to_handlers/gatetohandlers/HttpEntity" "body" "Ljava/lang/Object;" .null := D194 (Or.inr (tw65 H.1)) (ty := (.object "java/lang/Object")) (by decide)
          have F197 : Fld Z h194 a194 "com/example/gate_to_handlers/gatetohandlers/HttpEntity" "headers" "Lcom/example/gate_to_handlers/gatetohandlers/HttpHeaders;" .null := D194 (Or.inr (tw199 H.1)) (ty := (.object "com/example/gate_to_handlers/gatetohandlers/HttpHeaders")) (by decide)
          obtain ⟨v195, T195, h195, AA195, K195, ⟨L195, Q195⟩, st195⟩ := A194.callI hx (y := (⟨"com/example/gate_to_handlers/gatetohandlers/HttpEntity", "<init>", "(Ljava/lang/Object;)V"⟩ : MethodName)) rfl (tw214 H.1) (tw215 H.1) (tw216 H.1) (by decide) (g := (mkF m 166 #[vI p0, vI p1, vI p2, vI p3, vA a178, vA a179, vA a181, vI ((XT.ushr p1 (4 : Int32)) - ((XT.ushr p1 (4 : Int32)) / (3 : Int32)) * (3 : Int32)), .val .null, .val .null, vI (p0 &&& (3 : Int32)), .unset, .unset, .unset] [.null, (.ref a194), (.ref a194)])) rfl (by rw [hml]; rfl) a194 [.null] [(.ref a194)] (lenOf pd_16 rfl) rfl (Wd := 1) (Nat.le_refl _) (hb hby at_166) (by decide) (by decide) [a194] (fun _ _ _ q => q.2) (allS (List.mem_of_getElem? (i := 0) rfl) all0) (fun vm0 hZ => payN (ct_heo H a194 .null .null .null A194.old Ex194 (A194.nle (List.mem_of_getElem? (i := 0) rfl)) Ex194.lt F196 F197 rfl) (tw216 H.1) (tw56 H.1) (by decide) (by decide) hZ)
          obtain ⟨Q195, N195, -⟩ := Q195
          obtain ⟨rfl, Ec195, Ff195⟩ := Q195
          have A195 := AA195 [] all0
          refine Run.st (T195.setTop (mkF m 169 #[vI p0, vI p1, vI p2, vI p3, vA a178, vA a179, vA a181, vI ((XT.ushr p1 (4 : Int32)) - ((XT.ushr p1 (4 : Int32)) / (3 : Int32)) * (3 : Int32)), .val .null, .val .null, vI (p0 &&& (3 : Int32)), .unset, .unset, .unset] [(.ref a194)])) st195 ?_
          refine Run.st (T195.setTop (mkF m 236 #[vI p0, vI p1, vI p2, vI p3, vA a178, vA a179, vA a181, vI ((XT.ushr p1 (4 : Int32)) - ((XT.ushr p1 (4 : Int32)) / (3 : Int32)) * (3 : Int32)), .val .null, .val .null, vI (p0 &&& (3 : Int32)), vA a194, vI 0, .unset] [(.ref a194)])) (fun _ k => XS.astore A195.here hx rfl (hb hby at_169) rfl rfl (l' := #[vI p0, vI p1, vI p2, vI p3, vA a178, vA a179, vA a181, vI ((XT.ushr p1 (4 : Int32)) - ((XT.ushr p1 (4 : Int32)) / (3 : Int32)) * (3 : Int32)), .val .null, .val .null, vI (p0 &&& (3 : Int32)), vA a194, .unset, .unset]) rfl (XS.aload A195.here hx rfl (hb hby at_171) rfl rfl (XS.ifnullYes A195.here hx rfl (pc0 := 173) (pc' := 180) rfl (hb hby at_173) rfl (by decide) (by decide) (XS.iconst A195.here hx rfl (hb hby at_180) (XS.istore A195.here hx rfl (hb hby at_181) rfl (l' := #[vI p0, vI p1, vI p2, vI p3, vA a178, vA a179, vA a181, vI ((XT.ushr p1 (4 : Int32)) - ((XT.ushr p1 (4 : Int32)) / (3 : Int32)) * (3 : Int32)), .val .null, .val .null, vI (p0 &&& (3 : Int32)), vA a194, vI 0, .unset]) rfl (XS.goto A195.here hx rfl (pc0 := 183) (pc' := 234) rfl (hb hby at_183) (by decide) (by decide) (XS.aload A195.here hx rfl (hb hby at_234) rfl rfl k))))))) ?_
          obtain ⟨v198, T198, h198, AA198, K198, ⟨L198, Q198⟩, st198⟩ := A195.callV hx (y := (⟨"com/example/gate_to_handlers/gatetohandlers/HttpEntity", "hasBody", "()Z"⟩ : MethodName)) (z := (⟨"com/example/gate_to_handlers/gatetohandlers/HttpEntity", "hasBody", "()Z"⟩ : MethodName)) (tw200 H.1) (tw201 H.1) (tw203 H.1) (tw202 H.1) (nfSel (tw203 H.1)) (by decide) Ec195 (g := (mkF m 236 #[vI p0, vI p1, vI p2, vI p3, vA a178, vA a179, vA a181, vI ((XT.ushr p1 (4 : Int32)) - ((XT.ushr p1 (4 : Int32)) / (3 : Int32)) * (3 : Int32)), .val .null, .val .null, vI (p0 &&& (3 : Int32)), vA a194, vI 0, .unset] [(.ref a194)])) rfl (by rw [hml]; rfl) [] [] (lenOf pd_9 rfl) rfl (Wd := 0) (Nat.le_refl _) (hb hby at_236) (by decide) (by decide) [] (fun _ _ _ q => q.2) all0 (fun vm0 hZ => payN (ct_hb_n H a194 A195.old Ff195) (tw204 H.1) (tw56 H.1) (by decide) (by decide) hZ)
          obtain ⟨Q198, N198, -⟩ := Q198
          obtain ⟨rfl, q198⟩ := Q198
          have q198 := q198.symm
          subst q198
          have A198 := AA198 [] all0
          refine Run.st (T198.setTop (mkF m 239 #[vI p0, vI p1, vI p2, vI p3, vA a178, vA a179, vA a181, vI ((XT.ushr p1 (4 : Int32)) - ((XT.ushr p1 (4 : Int32)) / (3 : Int32)) * (3 : Int32)), .val .null, .val .null, vI (p0 &&& (3 : Int32)), vA a194, vI 0, .unset] [.int 0])) st198 ?_
          refine Run.st (T198.setTop (mkF m 252 #[vI p0, vI p1, vI p2, vI p3, vA a178, vA a179, vA a181, vI ((XT.ushr p1 (4 : Int32)) - ((XT.ushr p1 (4 : Int32)) / (3 : Int32)) * (3 : Int32)), .val .null, .val .null, vI (p0 &&& (3 : Int32)), vA a194, vI 0, vI 0] [(.ref a194), .int 0])) (fun _ k => XS.istore A198.here hx rfl (hb hby at_239) rfl (l' := #[vI p0, vI p1, vI p2, vI p3, vA a178, vA a179, vA a181, vI ((XT.ushr p1 (4 : Int32)) - ((XT.ushr p1 (4 : Int32)) / (3 : Int32)) * (3 : Int32)), .val .null, .val .null, vI (p0 &&& (3 : Int32)), vA a194, vI 0, vI 0]) rfl (XS.iload A198.here hx rfl (hb hby at_241) rfl (XS.iload A198.here hx rfl (hb hby at_243) rfl (XS.icmpNo A198.here hx rfl (hb hby at_245) rfl (by decide) (XS.iload A198.here hx rfl (hb hby at_248) rfl (XS.aload A198.here hx rfl (hb hby at_250) rfl rfl k)))))) ?_
          obtain ⟨v199, T199, h199, AA199, K199, ⟨L199, Q199⟩, st199⟩ := A198.callV hx (y := (⟨"com/example/gate_to_handlers/gatetohandlers/HttpEntity", "getBody", "()Ljava/lang/Object;"⟩ : MethodName)) (z := (⟨"com/example/gate_to_handlers/gatetohandlers/HttpEntity", "getBody", "()Ljava/lang/Object;"⟩ : MethodName)) (tw205 H.1) (tw206 H.1) (tw208 H.1) (tw207 H.1) (nfSel (tw208 H.1)) (by decide) Ec195 (g := (mkF m 252 #[vI p0, vI p1, vI p2, vI p3, vA a178, vA a179, vA a181, vI ((XT.ushr p1 (4 : Int32)) - ((XT.ushr p1 (4 : Int32)) / (3 : Int32)) * (3 : Int32)), .val .null, .val .null, vI (p0 &&& (3 : Int32)), vA a194, vI 0, vI 0] [(.ref a194), .int 0])) rfl (by rw [hml]; rfl) [] [(.int (0 : Int32))] (lenOf pd_15 rfl) rfl (Wd := 1) (Nat.le_refl _) (hb hby at_252) (by decide) (by decide) [] (fun _ _ _ q => q.2) all0 (fun vm0 hZ => payN (ct_gb_n H a194 A198.old Ff195) (tw209 H.1) (tw56 H.1) (by decide) (by decide) hZ)
          obtain ⟨Q199, N199, -⟩ := Q199
          obtain ⟨rfl, q199⟩ := Q199
          have q199 := q199.symm
          subst q199
          have A199 := AA199 [] all0
          refine Run.st (T199.setTop (mkF m 255 #[vI p0, vI p1, vI p2, vI p3, vA a178, vA a179, vA a181, vI ((XT.ushr p1 (4 : Int32)) - ((XT.ushr p1 (4 : Int32)) / (3 : Int32)) * (3 : Int32)), .val .null, .val .null, vI (p0 &&& (3 : Int32)), vA a194, vI 0, vI 0] [.null, .int 0])) st199 ?_
          refine Run.st (T199.setTop (mkF m 271 #[vI p0, vI p1, vI p2, vI p3, vA a178, vA a179, vA a181, vI ((XT.ushr p1 (4 : Int32)) - ((XT.ushr p1 (4 : Int32)) / (3 : Int32)) * (3 : Int32)), .val .null, .val .null, vI (p0 &&& (3 : Int32)), vA a194, vI 0, vI 0] [.int 1])) (fun _ k => XS.ifnullYes A199.here hx rfl (pc0 := 255) (pc' := 262) rfl (hb hby at_255) rfl (by decide) (by decide) (XS.iconst A199.here hx rfl (hb hby at_262) (XS.icmpNo A199.here hx rfl (hb hby at_263) rfl (by decide) (XS.iconst A199.here hx rfl (hb hby at_266) (XS.goto A199.here hx rfl (pc0 := 267) (pc' := 271) rfl (hb hby at_267) (by decide) (by decide) k))))) ?_
          exact A199.leaveW hlk hh0 (some (.int (1 : Int32))) (fun q => by rw [hrt] at q; cases q) (by decide) (by decide) rfl (fun X hr => retN X hx (t := .boolean) hrt (by simp) (hb hby at_271) hr)
        · refine Run.st (T183.setTop (mkF m 189 #[vI p0, vI p1, vI p2, vI p3, vA a178, vA a179, vA a181, vI ((XT.ushr p1 (4 : Int32)) - ((XT.ushr p1 (4 : Int32)) / (3 : Int32)) * (3 : Int32)), .val .null, .val .null, vI (p0 &&& (3 : Int32)), .unset, .unset, .unset] [.int 2, .int (p0 &&& (3 : Int32))])) (fun _ k => XS.icmpYes A183.here hx rfl (pc0 := 157) (pc' := 186) rfl (hb hby at_157) rfl (feq c193).2 (by decide) (by decide) (XS.iload A183.here hx rfl (hb hby at_186) rfl (XS.iconst A183.here hx rfl (hb hby at_188) k))) ?_
          by_cases c200 : (p0 &&& (3 : Int32)) = (2 : Int32)
          · refine Run.st (T183.setTop (mkF m 192 #[vI p0, vI p1, vI p2, vI p3, vA a178, vA a179, vA a181, vI ((XT.ushr p1 (4 : Int32)) - ((XT.ushr p1 (4 : Int32)) / (3 : Int32)) * (3 : Int32)), .val .null, .val .null, vI (p0 &&& (3 : Int32)), .unset, .unset, .unset] [])) (fun _ k => XS.icmpNo A183.here hx rfl (hb hby at_189) rfl (teq c200).2 k) ?_
            obtain ⟨a201, T201, h201, A201, E201, g201, Ex201, D201, st201⟩ := A183.newO hx (tw54 H.1) (tw55 H.1) (tw56 H.1) (g := (mkF m 192 #[vI p0, vI p1, vI p2, vI p3, vA a178, vA a179, vA a181, vI ((XT.ushr p1 (4 : Int32)) - ((XT.ushr p1 (4 : Int32)) / (3 : Int32)) * (3 : Int32)), .val .null, .val .null, vI (p0 &&& (3 : Int32)), .unset, .unset, .unset] [])) rfl (hb hby at_192) (by decide) (by decide)
            refine Run.st (T201.setTop (mkF m 195 #[vI p0, vI p1, vI p2, vI p3, vA a178, vA a179, vA a181, vI ((XT.ushr p1 (4 : Int32)) - ((XT.ushr p1 (4 : Int32)) / (3 : Int32)) * (3 : Int32)), .val .null, .val .null, vI (p0 &&& (3 : Int32)), .unset, .unset, .unset] [(.ref a201)])) st201 ?_
            refine Run.st (T201.setTop (mkF m 200 #[vI p0, vI p1, vI p2, vI p3, vA a178, vA a179, vA a181, vI ((XT.ushr p1 (4 : Int32)) - ((XT.ushr p1 (4 : Int32)) / (3 : Int32)) * (3 : Int32)), .val .null, .val .null, vI (p0 &&& (3 : Int32)), .unset, .unset, .unset] [.null, .null, (.ref a201), (.ref a201)])) (fun _ k => XS.dup A201.here hx rfl (hb hby at_195) rfl rfl (XS.aload A201.here hx rfl (hb hby at_196) rfl rfl (XS.aload A201.here hx rfl (hb hby at_198) rfl rfl k))) ?_
            have F203 : Fld Z h201 a201 "com/example/gate_to_handlers/gatetohandlers/HttpEntity" "body" "Ljava/lang/Object;" .null := D201 (Or.inr (tw65 H.1)) (ty := (.object "java/lang/Object")) (by decide)
            have F204 : Fld Z h201 a201 "com/example/gate_to_handlers/gatetohandlers/HttpEntity" "headers" "Lcom/example/gate_to_handlers/gatetohandlers/HttpHeaders;" .null := D201 (Or.inr (tw199 H.1)) (ty := (.object "com/example/gate_to_handlers/gatetohandlers/HttpHeaders")) (by decide)
            obtain ⟨v202, T202, h202, AA202, K202, ⟨L202, Q202⟩, st202⟩ := A201.callI hx (y := (⟨"com/example/gate_to_handlers/gatetohandlers/HttpEntity", "<init>", "(Ljava/lang/Object;Lcom/example/gate_to_handlers/gatetohandlers/HttpHeaders;)V"⟩ : MethodName)) rfl (tw213 H.1) (tw61 H.1) (tw62 H.1) (by decide) (g := (mkF m 200 #[vI p0, vI p1, vI p2, vI p3, vA a178, vA a179, vA a181, vI ((XT.ushr p1 (4 : Int32)) - ((XT.ushr p1 (4 : Int32)) / (3 : Int32)) * (3 : Int32)), .val .null, .val .null, vI (p0 &&& (3 : Int32)), .unset, .unset, .unset] [.null, .null, (.ref a201), (.ref a201)])) rfl (by rw [hml]; rfl) a201 [.null, .null] [(.ref a201)] (lenOf pd_13 rfl) rfl (Wd := 1) (Nat.le_refl _) (hb hby at_200) (by decide) (by decide) [a201] (fun _ _ _ q => q.2) (allS (List.mem_of_getElem? (i := 0) rfl) all0) (fun vm0 hZ => payN (ct_hen H a201 .null .null .null A201.old Ex201 (A201.nle (List.mem_of_getElem? (i := 0) rfl)) Ex201.lt F203 F204 rfl) (tw62 H.1) (tw56 H.1) (by decide) (by decide) hZ)
            obtain ⟨Q202, N202, -⟩ := Q202
            obtain ⟨rfl, Ec202, Ff202⟩ := Q202
            have A202 := AA202 [] all0
            refine Run.st (T202.setTop (mkF m 203 #[vI p0, vI p1, vI p2, vI p3, vA a178, vA a179, vA a181, vI ((XT.ushr p1 (4 : Int32)) - ((XT.ushr p1 (4 : Int32)) / (3 : Int32)) * (3 : Int32)), .val .null, .val .null, vI (p0 &&& (3 : Int32)), .unset, .unset, .unset] [(.ref a201)])) st202 ?_
            refine Run.st (T202.setTop (mkF m 236 #[vI p0, vI p1, vI p2, vI p3, vA a178, vA a179, vA a181, vI ((XT.ushr p1 (4 : Int32)) - ((XT.ushr p1 (4 : Int32)) / (3 : Int32)) * (3 : Int32)), .val .null, .val .null, vI (p0 &&& (3 : Int32)), vA a201, vI 0, .unset] [(.ref a201)])) (fun _ k => XS.astore A202.here hx rfl (hb hby at_203) rfl rfl (l' := #[vI p0, vI p1, vI p2, vI p3, vA a178, vA a179, vA a181, vI ((XT.ushr p1 (4 : Int32)) - ((XT.ushr p1 (4 : Int32)) / (3 : Int32)) * (3 : Int32)), .val .null, .val .null, vI (p0 &&& (3 : Int32)), vA a201, .unset, .unset]) rfl (XS.aload A202.here hx rfl (hb hby at_205) rfl rfl (XS.ifnullYes A202.here hx rfl (pc0 := 207) (pc' := 214) rfl (hb hby at_207) rfl (by decide) (by decide) (XS.iconst A202.here hx rfl (hb hby at_214) (XS.istore A202.here hx rfl (hb hby at_215) rfl (l' := #[vI p0, vI p1, vI p2, vI p3, vA a178, vA a179, vA a181, vI ((XT.ushr p1 (4 : Int32)) - ((XT.ushr p1 (4 : Int32)) / (3 : Int32)) * (3 : Int32)), .val .null, .val .null, vI (p0 &&& (3 : Int32)), vA a201, vI 0, .unset]) rfl (XS.goto A202.here hx rfl (pc0 := 217) (pc' := 234) rfl (hb hby at_217) (by decide) (by decide) (XS.aload A202.here hx rfl (hb hby at_234) rfl rfl k))))))) ?_
            obtain ⟨v205, T205, h205, AA205, K205, ⟨L205, Q205⟩, st205⟩ := A202.callV hx (y := (⟨"com/example/gate_to_handlers/gatetohandlers/HttpEntity", "hasBody", "()Z"⟩ : MethodName)) (z := (⟨"com/example/gate_to_handlers/gatetohandlers/HttpEntity", "hasBody", "()Z"⟩ : MethodName)) (tw200 H.1) (tw201 H.1) (tw203 H.1) (tw202 H.1) (nfSel (tw203 H.1)) (by decide) Ec202 (g := (mkF m 236 #[vI p0, vI p1, vI p2, vI p3, vA a178, vA a179, vA a181, vI ((XT.ushr p1 (4 : Int32)) - ((XT.ushr p1 (4 : Int32)) / (3 : Int32)) * (3 : Int32)), .val .null, .val .null, vI (p0 &&& (3 : Int32)), vA a201, vI 0, .unset] [(.ref a201)])) rfl (by rw [hml]; rfl) [] [] (lenOf pd_9 rfl) rfl (Wd := 0) (Nat.le_refl _) (hb hby at_236) (by decide) (by decide) [] (fun _ _ _ q => q.2) all0 (fun vm0 hZ => payN (ct_hb_n H a201 A202.old Ff202) (tw204 H.1) (tw56 H.1) (by decide) (by decide) hZ)
            obtain ⟨Q205, N205, -⟩ := Q205
            obtain ⟨rfl, q205⟩ := Q205
            have q205 := q205.symm
            subst q205
            have A205 := AA205 [] all0
            refine Run.st (T205.setTop (mkF m 239 #[vI p0, vI p1, vI p2, vI p3, vA a178, vA a179, vA a181, vI ((XT.ushr p1 (4 : Int32)) - ((XT.ushr p1 (4 : Int32)) / (3 : Int32)) * (3 : Int32)), .val .null, .val .null, vI (p0 &&& (3 : Int32)), vA a201, vI 0, .unset] [.int 0])) st205 ?_
            refine Run.st (T205.setTop (mkF m 252 #[vI p0, vI p1, vI p2, vI p3, vA a178, vA a179, vA a181, vI ((XT.ushr p1 (4 : Int32)) - ((XT.ushr p1 (4 : Int32)) / (3 : Int32)) * (3 : Int32)), .val .null, .val .null, vI (p0 &&& (3 : Int32)), vA a201, vI 0, vI 0] [(.ref a201), .int 0])) (fun _ k => XS.istore A205.here hx rfl (hb hby at_239) rfl (l' := #[vI p0, vI p1, vI p2, vI p3, vA a178, vA a179, vA a181, vI ((XT.ushr p1 (4 : Int32)) - ((XT.ushr p1 (4 : Int32)) / (3 : Int32)) * (3 : Int32)), .val .null, .val .null, vI (p0 &&& (3 : Int32)), vA a201, vI 0, vI 0]) rfl (XS.iload A205.here hx rfl (hb hby at_241) rfl (XS.iload A205.here hx rfl (hb hby at_243) rfl (XS.icmpNo A205.here hx rfl (hb hby at_245) rfl (by decide) (XS.iload A205.here hx rfl (hb hby at_248) rfl (XS.aload A205.here hx rfl (hb hby at_250) rfl rfl k)))))) ?_
            obtain ⟨v206, T206, h206, AA206, K206, ⟨L206, Q206⟩, st206⟩ := A205.callV hx (y := (⟨"com/example/gate_to_handlers/gatetohandlers/HttpEntity", "getBody", "()Ljava/lang/Object;"⟩ : MethodName)) (z := (⟨"com/example/gate_to_handlers/gatetohandlers/HttpEntity", "getBody", "()Ljava/lang/Object;"⟩ : MethodName)) (tw205 H.1) (tw206 H.1) (tw208 H.1) (tw207 H.1) (nfSel (tw208 H.1)) (by decide) Ec202 (g := (mkF m 252 #[vI p0, vI p1, vI p2, vI p3, vA a178, vA a179, vA a181, vI ((XT.ushr p1 (4 : Int32)) - ((XT.ushr p1 (4 : Int32)) / (3 : Int32)) * (3 : Int32)), .val .null, .val .null, vI (p0 &&& (3 : Int32)), vA a201, vI 0, vI 0] [(.ref a201), .int 0])) rfl (by rw [hml]; rfl) [] [(.int (0 : Int32))] (lenOf pd_15 rfl) rfl (Wd := 1) (Nat.le_refl _) (hb hby at_252) (by decide) (by decide) [] (fun _ _ _ q => q.2) all0 (fun vm0 hZ => payN (ct_gb_n H a201 A205.old Ff202) (tw209 H.1) (tw56 H.1) (by decide) (by decide) hZ)
            obtain ⟨Q206, N206, -⟩ := Q206
            obtain ⟨rfl, q206⟩ := Q206
            have q206 := q206.symm
            subst q206
            have A206 := AA206 [] all0
            refine Run.st (T206.setTop (mkF m 255 #[vI p0, vI p1, vI p2, vI p3, vA a178, vA a179, vA a181, vI ((XT.ushr p1 (4 : Int32)) - ((XT.ushr p1 (4 : Int32)) / (3 : Int32)) * (3 : Int32)), .val .null, .val .null, vI (p0 &&& (3 : Int32)), vA a201, vI 0, vI 0] [.null, .int 0])) st206 ?_
            refine Run.st (T206.setTop (mkF m 271 #[vI p0, vI p1, vI p2, vI p3, vA a178, vA a179, vA a181, vI ((XT.ushr p1 (4 : Int32)) - ((XT.ushr p1 (4 : Int32)) / (3 : Int32)) * (3 : Int32)), .val .null, .val .null, vI (p0 &&& (3 : Int32)), vA a201, vI 0, vI 0] [.int 1])) (fun _ k => XS.ifnullYes A206.here hx rfl (pc0 := 255) (pc' := 262) rfl (hb hby at_255) rfl (by decide) (by decide) (XS.iconst A206.here hx rfl (hb hby at_262) (XS.icmpNo A206.here hx rfl (hb hby at_263) rfl (by decide) (XS.iconst A206.here hx rfl (hb hby at_266) (XS.goto A206.here hx rfl (pc0 := 267) (pc' := 271) rfl (hb hby at_267) (by decide) (by decide) k))))) ?_
            exact A206.leaveW hlk hh0 (some (.int (1 : Int32))) (fun q => by rw [hrt] at q; cases q) (by decide) (by decide) rfl (fun X hr => retN X hx (t := .boolean) hrt (by simp) (hb hby at_271) hr)
          · refine Run.st (T183.setTop (mkF m 220 #[vI p0, vI p1, vI p2, vI p3, vA a178, vA a179, vA a181, vI ((XT.ushr p1 (4 : Int32)) - ((XT.ushr p1 (4 : Int32)) / (3 : Int32)) * (3 : Int32)), .val .null, .val .null, vI (p0 &&& (3 : Int32)), .unset, .unset, .unset] [])) (fun _ k => XS.icmpYes A183.here hx rfl (pc0 := 189) (pc' := 220) rfl (hb hby at_189) rfl (feq c200).2 (by decide) (by decide) k) ?_
            obtain ⟨a207, T207, h207, A207, E207, g207, Ex207, D207, st207⟩ := A183.newO hx (tw54 H.1) (tw55 H.1) (tw56 H.1) (g := (mkF m 220 #[vI p0, vI p1, vI p2, vI p3, vA a178, vA a179, vA a181, vI ((XT.ushr p1 (4 : Int32)) - ((XT.ushr p1 (4 : Int32)) / (3 : Int32)) * (3 : Int32)), .val .null, .val .null, vI (p0 &&& (3 : Int32)), .unset, .unset, .unset] [])) rfl (hb hby at_220) (by decide) (by decide)
            refine Run.st (T207.setTop (mkF m 223 #[vI p0, vI p1, vI p2, vI p3, vA a178, vA a179, vA a181, vI ((XT.ushr p1 (4 : Int32)) - ((XT.ushr p1 (4 : Int32)) / (3 : Int32)) * (3 : Int32)), .val .null, .val .null, vI (p0 &&& (3 : Int32)), .unset, .unset, .unset] [(.ref a207)])) st207 ?_
            refine Run.st (T207.setTop (mkF m 226 #[vI p0, vI p1, vI p2, vI p3, vA a178, vA a179, vA a181, vI ((XT.ushr p1 (4 : Int32)) - ((XT.ushr p1 (4 : Int32)) / (3 : Int32)) * (3 : Int32)), .val .null, .val .null, vI (p0 &&& (3 : Int32)), .unset, .unset, .unset] [.null, (.ref a207), (.ref a207)])) (fun _ k => XS.dup A207.here hx rfl (hb hby at_223) rfl rfl (XS.aload A207.here hx rfl (hb hby at_224) rfl rfl k)) ?_
            have F209 : Fld Z h207 a207 "com/example/gate_to_handlers/gatetohandlers/HttpEntity" "body" "Ljava/lang/Object;" .null := D207 (Or.inr (tw65 H.1)) (ty := (.object "java/lang/Object")) (by decide)
            have F210 : Fld Z h207 a207 "com/example/gate_to_handlers/gatetohandlers/HttpEntity" "headers" "Lcom/example/gate_to_handlers/gatetohandlers/HttpHeaders;" .null := D207 (Or.inr (tw199 H.1)) (ty := (.object "com/example/gate_to_handlers/gatetohandlers/HttpHeaders")) (by decide)
            obtain ⟨v208, T208, h208, AA208, K208, ⟨L208, Q208⟩, st208⟩ := A207.callI hx (y := (⟨"com/example/gate_to_handlers/gatetohandlers/HttpEntity", "<init>", "(Lcom/example/gate_to_handlers/gatetohandlers/HttpHeaders;)V"⟩ : MethodName)) rfl (tw210 H.1) (tw211 H.1) (tw212 H.1) (by decide) (g := (mkF m 226 #[vI p0, vI p1, vI p2, vI p3, vA a178, vA a179, vA a181, vI ((XT.ushr p1 (4 : Int32)) - ((XT.ushr p1 (4 : Int32)) / (3 : Int32)) * (3 : Int32)), .val .null, .val .null, vI (p0 &&& (3 : Int32)), .unset, .unset, .unset] [.null, (.ref a207), (.ref a207)])) rfl (by rw [hml]; rfl) a207 [.null] [(.ref a207)] (lenOf pd_17 rfl) rfl (Wd := 1) (Nat.le_refl _) (hb hby at_226) (by decide) (by decide) [a207] (fun _ _ _ q => q.2) (allS (List.mem_of_getElem? (i := 0) rfl) all0) (fun vm0 hZ => payN (ct_hehn H a207 .null .null A207.old Ex207 (A207.nle (List.mem_of_getElem? (i := 0) rfl)) Ex207.lt F209 F210) (tw212 H.1) (tw56 H.1) (by decide) (by decide) hZ)
            obtain ⟨Q208, N208, -⟩ := Q208
            obtain ⟨rfl, Ec208, Ff208⟩ := Q208
            have A208 := AA208 [] all0
            refine Run.st (T208.setTop (mkF m 229 #[vI p0, vI p1, vI p2, vI p3, vA a178, vA a179, vA a181, vI ((XT.ushr p1 (4 : Int32)) - ((XT.ushr p1 (4 : Int32)) / (3 : Int32)) * (3 : Int32)), .val .null, .val .null, vI (p0 &&& (3 : Int32)), .unset, .unset, .unset] [(.ref a207)])) st208 ?_
            refine Run.st (T208.setTop (mkF m 236 #[vI p0, vI p1, vI p2, vI p3, vA a178, vA a179, vA a181, vI ((XT.ushr p1 (4 : Int32)) - ((XT.ushr p1 (4 : Int32)) / (3 : Int32)) * (3 : Int32)), .val .null, .val .null, vI (p0 &&& (3 : Int32)), vA a207, vI 0, .unset] [(.ref a207)])) (fun _ k => XS.astore A208.here hx rfl (hb hby at_229) rfl rfl (l' := #[vI p0, vI p1, vI p2, vI p3, vA a178, vA a179, vA a181, vI ((XT.ushr p1 (4 : Int32)) - ((XT.ushr p1 (4 : Int32)) / (3 : Int32)) * (3 : Int32)), .val .null, .val .null, vI (p0 &&& (3 : Int32)), vA a207, .unset, .unset]) rfl (XS.iconst A208.here hx rfl (hb hby at_231) (XS.istore A208.here hx rfl (hb hby at_232) rfl (l' := #[vI p0, vI p1, vI p2, vI p3, vA a178, vA a179, vA a181, vI ((XT.ushr p1 (4 : Int32)) - ((XT.ushr p1 (4 : Int32)) / (3 : Int32)) * (3 : Int32)), .val .null, .val .null, vI (p0 &&& (3 : Int32)), vA a207, vI 0, .unset]) rfl (XS.aload A208.here hx rfl (hb hby at_234) rfl rfl k)))) ?_
            obtain ⟨v211, T211, h211, AA211, K211, ⟨L211, Q211⟩, st211⟩ := A208.callV hx (y := (⟨"com/example/gate_to_handlers/gatetohandlers/HttpEntity", "hasBody", "()Z"⟩ : MethodName)) (z := (⟨"com/example/gate_to_handlers/gatetohandlers/HttpEntity", "hasBody", "()Z"⟩ : MethodName)) (tw200 H.1) (tw201 H.1) (tw203 H.1) (tw202 H.1) (nfSel (tw203 H.1)) (by decide) Ec208 (g := (mkF m 236 #[vI p0, vI p1, vI p2, vI p3, vA a178, vA a179, vA a181, vI ((XT.ushr p1 (4 : Int32)) - ((XT.ushr p1 (4 : Int32)) / (3 : Int32)) * (3 : Int32)), .val .null, .val .null, vI (p0 &&& (3 : Int32)), vA a207, vI 0, .unset] [(.ref a207)])) rfl (by rw [hml]; rfl) [] [] (lenOf pd_9 rfl) rfl (Wd := 0) (Nat.le_refl _) (hb hby at_236) (by decide) (by decide) [] (fun _ _ _ q => q.2) all0 (fun vm0 hZ => payN (ct_hb_n H a207 A208.old Ff208) (tw204 H.1) (tw56 H.1) (by decide) (by decide) hZ)
            obtain ⟨Q211, N211, -⟩ := Q211
            obtain ⟨rfl, q211⟩ := Q211
            have q211 := q211.symm
            subst q211
            have A211 := AA211 [] all0
            refine Run.st (T211.setTop (mkF m 239 #[vI p0, vI p1, vI p2, vI p3, vA a178, vA a179, vA a181, vI ((XT.ushr p1 (4 : Int32)) - ((XT.ushr p1 (4 : Int32)) / (3 : Int32)) * (3 : Int32)), .val .null, .val .null, vI (p0 &&& (3 : Int32)), vA a207, vI 0, .unset] [.int 0])) st211 ?_
            refine Run.st (T211.setTop (mkF m 252 #[vI p0, vI p1, vI p2, vI p3, vA a178, vA a179, vA a181, vI ((XT.ushr p1 (4 : Int32)) - ((XT.ushr p1 (4 : Int32)) / (3 : Int32)) * (3 : Int32)), .val .null, .val .null, vI (p0 &&& (3 : Int32)), vA a207, vI 0, vI 0] [(.ref a207), .int 0])) (fun _ k => XS.istore A211.here hx rfl (hb hby at_239) rfl (l' := #[vI p0, vI p1, vI p2, vI p3, vA a178, vA a179, vA a181, vI ((XT.ushr p1 (4 : Int32)) - ((XT.ushr p1 (4 : Int32)) / (3 : Int32)) * (3 : Int32)), .val .null, .val .null, vI (p0 &&& (3 : Int32)), vA a207, vI 0, vI 0]) rfl (XS.iload A211.here hx rfl (hb hby at_241) rfl (XS.iload A211.here hx rfl (hb hby at_243) rfl (XS.icmpNo A211.here hx rfl (hb hby at_245) rfl (by decide) (XS.iload A211.here hx rfl (hb hby at_248) rfl (XS.aload A211.here hx rfl (hb hby at_250) rfl rfl k)))))) ?_
            obtain ⟨v212, T212, h212, AA212, K212, ⟨L212, Q212⟩, st212⟩ := A211.callV hx (y := (⟨"com/example/gate_to_handlers/gatetohandlers/HttpEntity", "getBody", "()Ljava/lang/Object;"⟩ : MethodName)) (z := (⟨"com/example/gate_to_handlers/gatetohandlers/HttpEntity", "getBody", "()Ljava/lang/Object;"⟩ : MethodName)) (tw205 H.1) (tw206 H.1) (tw208 H.1) (tw207 H.1) (nfSel (tw208 H.1)) (by decide) Ec208 (g := (mkF m 252 #[vI p0, vI p1, vI p2, vI p3, vA a178, vA a179, vA a181, vI ((XT.ushr p1 (4 : Int32)) - ((XT.ushr p1 (4 : Int32)) / (3 : Int32)) * (3 : Int32)), .val .null, .val .null, vI (p0 &&& (3 : Int32)), vA a207, vI 0, vI 0] [(.ref a207), .int 0])) rfl (by rw [hml]; rfl) [] [(.int (0 : Int32))] (lenOf pd_15 rfl) rfl (Wd := 1) (Nat.le_refl _) (hb hby at_252) (by decide) (by decide) [] (fun _ _ _ q => q.2) all0 (fun vm0 hZ => payN (ct_gb_n H a207 A211.old Ff208) (tw209 H.1) (tw56 H.1) (by decide) (by decide) hZ)
            obtain ⟨Q212, N212, -⟩ := Q212
            obtain ⟨rfl, q212⟩ := Q212
            have q212 := q212.symm
            subst q212
            have A212 := AA212 [] all0
            refine Run.st (T212.setTop (mkF m 255 #[vI p0, vI p1, vI p2, vI p3, vA a178, vA a179, vA a181, vI ((XT.ushr p1 (4 : Int32)) - ((XT.ushr p1 (4 : Int32)) / (3 : Int32)) * (3 : Int32)), .val .null, .val .null, vI (p0 &&& (3 : Int32)), vA a207, vI 0, vI 0] [.null, .int 0])) st212 ?_
            refine Run.st (T212.setTop (mkF m 271 #[vI p0, vI p1, vI p2, vI p3, vA a178, vA a179, vA a181, vI ((XT.ushr p1 (4 : Int32)) - ((XT.ushr p1 (4 : Int32)) / (3 : Int32)) * (3 : Int32)), .val .null, .val .null, vI (p0 &&& (3 : Int32)), vA a207, vI 0, vI 0] [.int 1])) (fun _ k => XS.ifnullYes A212.here hx rfl (pc0 := 255) (pc' := 262) rfl (hb hby at_255) rfl (by decide) (by decide) (XS.iconst A212.here hx rfl (hb hby at_262) (XS.icmpNo A212.here hx rfl (hb hby at_263) rfl (by decide) (XS.iconst A212.here hx rfl (hb hby at_266) (XS.goto A212.here hx rfl (pc0 := 267) (pc' := 271) rfl (hb hby at_267) (by decide) (by decide) k))))) ?_
            exact A212.leaveW hlk hh0 (some (.int (1 : Int32))) (fun q => by rw [hrt] at q; cases q) (by decide) (by decide) rfl (fun X hr => retN X hx (t := .boolean) hrt (by simp) (hb hby at_271) hr)
    · refine Run.st (T183.setTop (mkF m 120 #[vI p0, vI p1, vI p2, vI p3, vA a178, vA a179, vA a181, vI ((XT.ushr p1 (4 : Int32)) - ((XT.ushr p1 (4 : Int32)) / (3 : Int32)) * (3 : Int32)), .val .null, .val .null, .unset, .unset, .unset, .unset] [])) (fun _ k => XS.ifNo A183.here hx rfl (hb hby at_117) rfl (by rw [if0]; exact (feq c185).1) k) ?_
      obtain ⟨a213, T213, h213, A213, E213, g213, Ex213, D213, st213⟩ := A183.newO hx (tw22 H.1) (tw23 H.1) (tw24 H.1) (g := (mkF m 120 #[vI p0, vI p1, vI p2, vI p3, vA a178, vA a179, vA a181, vI ((XT.ushr p1 (4 : Int32)) - ((XT.ushr p1 (4 : Int32)) / (3 : Int32)) * (3 : Int32)), .val .null, .val .null, .unset, .unset, .unset, .unset] [])) rfl (hb hby at_120) (by decide) (by decide)
      refine Run.st (T213.setTop (mkF m 123 #[vI p0, vI p1, vI p2, vI p3, vA a178, vA a179, vA a181, vI ((XT.ushr p1 (4 : Int32)) - ((XT.ushr p1 (4 : Int32)) / (3 : Int32)) * (3 : Int32)), .val .null, .val .null, .unset, .unset, .unset, .unset] [(.ref a213)])) st213 ?_
      refine Run.st (T213.setTop (mkF m 124 #[vI p0, vI p1, vI p2, vI p3, vA a178, vA a179, vA a181, vI ((XT.ushr p1 (4 : Int32)) - ((XT.ushr p1 (4 : Int32)) / (3 : Int32)) * (3 : Int32)), .val .null, .val .null, .unset, .unset, .unset, .unset] [(.ref a213), (.ref a213)])) (fun _ k => XS.dup A213.here hx rfl (hb hby at_123) rfl rfl k) ?_
      have F215 : Fld Z h213 a213 "com/example/gate_to_handlers/gatetohandlers/HttpHeaders" "fields" "Ljava/util/Map;" .null := D213 (Or.inr (tw53 H.1)) (ty := (.object "java/util/Map")) (by decide)
      obtain ⟨v214, T214, h214, AA214, K214, ⟨L214, Q214⟩, st214⟩ := A213.callI hx (y := (⟨"com/example/gate_to_handlers/gatetohandlers/HttpHeaders", "<init>", "()V"⟩ : MethodName)) rfl (tw25 H.1) (tw26 H.1) (tw27 H.1) (by decide) (g := (mkF m 124 #[vI p0, vI p1, vI p2, vI p3, vA a178, vA a179, vA a181, vI ((XT.ushr p1 (4 : Int32)) - ((XT.ushr p1 (4 : Int32)) / (3 : Int32)) * (3 : Int32)), .val .null, .val .null, .unset, .unset, .unset, .unset] [(.ref a213), (.ref a213)])) rfl (by rw [hml]; rfl) a213 [] [(.ref a213)] (lenOf pd_0 rfl) rfl (Wd := 1) (Nat.le_refl _) (hb hby at_124) (by decide) (by decide) [a213] (fun _ _ _ q => q.2) (allS (List.mem_of_getElem? (i := 0) rfl) all0) (fun vm0 hZ => payN (ct_hh0 H a213 .null A213.old Ex213 (A213.nle (List.mem_of_getElem? (i := 0) rfl)) Ex213.lt F215) (tw27 H.1) (tw24 H.1) (by decide) (by decide) hZ)
      obtain ⟨Q214, N214, -⟩ := Q214
      obtain ⟨rfl, Ec214, t214, gt214, Ff214, Tq214⟩ := Q214
      obtain ⟨Te214, Tr214, Ts214, Tm214⟩ := Tq214
      have A214 := AA214 [t214] (allS (Or.inr gt214) all0)
      refine Run.st (T214.setTop (mkF m 127 #[vI p0, vI p1, vI p2, vI p3, vA a178, vA a179, vA a181, vI ((XT.ushr p1 (4 : Int32)) - ((XT.ushr p1 (4 : Int32)) / (3 : Int32)) * (3 : Int32)), .val .null, .val .null, .unset, .unset, .unset, .unset] [(.ref a213)])) st214 ?_
      refine Run.st (T214.setTop (mkF m 136 #[vI p0, vI p1, vI p2, vI p3, vA a178, vA a179, vA a181, vI ((XT.ushr p1 (4 : Int32)) - ((XT.ushr p1 (4 : Int32)) / (3 : Int32)) * (3 : Int32)), .val .null, vA a213, vI (p0 &&& (3 : Int32)), .unset, .unset, .unset] [.int (p0 &&& (3 : Int32))])) (fun _ k => XS.astore A214.here hx rfl (hb hby at_127) rfl rfl (l' := #[vI p0, vI p1, vI p2, vI p3, vA a178, vA a179, vA a181, vI ((XT.ushr p1 (4 : Int32)) - ((XT.ushr p1 (4 : Int32)) / (3 : Int32)) * (3 : Int32)), .val .null, vA a213, .unset, .unset, .unset, .unset]) rfl (XS.iloadN A214.here hx rfl (hb hby at_129) rfl (XS.iconst A214.here hx rfl (hb hby at_130) (XS.iand A214.here hx rfl (hb hby at_131) rfl (XS.istore A214.here hx rfl (hb hby at_132) rfl (l' := #[vI p0, vI p1, vI p2, vI p3, vA a178, vA a179, vA a181, vI ((XT.ushr p1 (4 : Int32)) - ((XT.ushr p1 (4 : Int32)) / (3 : Int32)) * (3 : Int32)), .val .null, vA a213, vI (p0 &&& (3 : Int32)), .unset, .unset, .unset]) rfl (XS.iload A214.here hx rfl (hb hby at_134) rfl k)))))) ?_
      by_cases c216 : (p0 &&& (3 : Int32)) = (0 : Int32)
      · refine Run.st (T214.setTop (mkF m 139 #[vI p0, vI p1, vI p2, vI p3, vA a178, vA a179, vA a181, vI ((XT.ushr p1 (4 : Int32)) - ((XT.ushr p1 (4 : Int32)) / (3 : Int32)) * (3 : Int32)), .val .null, vA a213, vI (p0 &&& (3 : Int32)), .unset, .unset, .unset] [])) (fun _ k => XS.ifNo A214.here hx rfl (hb hby at_136) rfl (by rw [if0]; exact (teq c216).2) k) ?_
        obtain ⟨a217, T217, h217, A217, E217, g217, Ex217, D217, st217⟩ := A214.newO hx (tw54 H.1) (tw55 H.1) (tw56 H.1) (g := (mkF m 139 #[vI p0, vI p1, vI p2, vI p3, vA a178, vA a179, vA a181, vI ((XT.ushr p1 (4 : Int32)) - ((XT.ushr p1 (4 : Int32)) / (3 : Int32)) * (3 : Int32)), .val .null, vA a213, vI (p0 &&& (3 : Int32)), .unset, .unset, .unset] [])) rfl (hb hby at_139) (by decide) (by decide)
        refine Run.st (T217.setTop (mkF m 142 #[vI p0, vI p1, vI p2, vI p3, vA a178, vA a179, vA a181, vI ((XT.ushr p1 (4 : Int32)) - ((XT.ushr p1 (4 : Int32)) / (3 : Int32)) * (3 : Int32)), .val .null, vA a213, vI (p0 &&& (3 : Int32)), .unset, .unset, .unset] [(.ref a217)])) st217 ?_
        refine Run.st (T217.setTop (mkF m 143 #[vI p0, vI p1, vI p2, vI p3, vA a178, vA a179, vA a181, vI ((XT.ushr p1 (4 : Int32)) - ((XT.ushr p1 (4 : Int32)) / (3 : Int32)) * (3 : Int32)), .val .null, vA a213, vI (p0 &&& (3 : Int32)), .unset, .unset, .unset] [(.ref a217), (.ref a217)])) (fun _ k => XS.dup A217.here hx rfl (hb hby at_142) rfl rfl k) ?_
        have F219 : Fld Z h217 a217 "com/example/gate_to_handlers/gatetohandlers/HttpEntity" "body" "Ljava/lang/Object;" .null := D217 (Or.inr (tw65 H.1)) (ty := (.object "java/lang/Object")) (by decide)
        have F220 : Fld Z h217 a217 "com/example/gate_to_handlers/gatetohandlers/HttpEntity" "headers" "Lcom/example/gate_to_handlers/gatetohandlers/HttpHeaders;" .null := D217 (Or.inr (tw199 H.1)) (ty := (.object "com/example/gate_to_handlers/gatetohandlers/HttpHeaders")) (by decide)
        obtain ⟨v218, T218, h218, AA218, K218, ⟨L218, Q218⟩, st218⟩ := A217.callI hx (y := (⟨"com/example/gate_to_handlers/gatetohandlers/HttpEntity", "<init>", "()V"⟩ : MethodName)) rfl (tw57 H.1) (tw58 H.1) (tw59 H.1) (by decide) (g := (mkF m 143 #[vI p0, vI p1, vI p2, vI p3, vA a178, vA a179, vA a181, vI ((XT.ushr p1 (4 : Int32)) - ((XT.ushr p1 (4 : Int32)) / (3 : Int32)) * (3 : Int32)), .val .null, vA a213, vI (p0 &&& (3 : Int32)), .unset, .unset, .unset] [(.ref a217), (.ref a217)])) rfl (by rw [hml]; rfl) a217 [] [(.ref a217)] (lenOf pd_0 rfl) rfl (Wd := 1) (Nat.le_refl _) (hb hby at_143) (by decide) (by decide) [a217] (fun _ _ _ q => q.2) (allS (List.mem_of_getElem? (i := 0) rfl) all0) (fun vm0 hZ => payN (ct_he0 H a217 .null .null A217.old Ex217 (A217.nle (List.mem_of_getElem? (i := 0) rfl)) Ex217.lt F219 F220) (tw59 H.1) (tw56 H.1) (by decide) (by decide) hZ)
        obtain ⟨Q218, N218, -⟩ := Q218
        obtain ⟨rfl, Ec218, Ff218⟩ := Q218
        have A218 := AA218 [] all0
        refine Run.st (T218.setTop (mkF m 146 #[vI p0, vI p1, vI p2, vI p3, vA a178, vA a179, vA a181, vI ((XT.ushr p1 (4 : Int32)) - ((XT.ushr p1 (4 : Int32)) / (3 : Int32)) * (3 : Int32)), .val .null, vA a213, vI (p0 &&& (3 : Int32)), .unset, .unset, .unset] [(.ref a217)])) st218 ?_
        refine Run.st (T218.setTop (mkF m 236 #[vI p0, vI p1, vI p2, vI p3, vA a178, vA a179, vA a181, vI ((XT.ushr p1 (4 : Int32)) - ((XT.ushr p1 (4 : Int32)) / (3 : Int32)) * (3 : Int32)), .val .null, vA a213, vI (p0 &&& (3 : Int32)), vA a217, vI 0, .unset] [(.ref a217)])) (fun _ k => XS.astore A218.here hx rfl (hb hby at_146) rfl rfl (l' := #[vI p0, vI p1, vI p2, vI p3, vA a178, vA a179, vA a181, vI ((XT.ushr p1 (4 : Int32)) - ((XT.ushr p1 (4 : Int32)) / (3 : Int32)) * (3 : Int32)), .val .null, vA a213, vI (p0 &&& (3 : Int32)), vA a217, .unset, .unset]) rfl (XS.iconst A218.here hx rfl (hb hby at_148) (XS.istore A218.here hx rfl (hb hby at_149) rfl (l' := #[vI p0, vI p1, vI p2, vI p3, vA a178, vA a179, vA a181, vI ((XT.ushr p1 (4 : Int32)) - ((XT.ushr p1 (4 : Int32)) / (3 : Int32)) * (3 : Int32)), .val .null, vA a213, vI (p0 &&& (3 : Int32)), vA a217, vI 0, .unset]) rfl (XS.goto A218.here hx rfl (pc0 := 151) (pc' := 234) rfl (hb hby at_151) (by decide) (by decide) (XS.aload A218.here hx rfl (hb hby at_234) rfl rfl k))))) ?_
        obtain ⟨v221, T221, h221, AA221, K221, ⟨L221, Q221⟩, st221⟩ := A218.callV hx (y := (⟨"com/example/gate_to_handlers/gatetohandlers/HttpEntity", "hasBody", "()Z"⟩ : MethodName)) (z := (⟨"com/example/gate_to_handlers/gatetohandlers/HttpEntity", "hasBody", "()Z"⟩ : MethodName)) (tw200 H.1) (tw201 H.1) (tw203 H.1) (tw202 H.1) (nfSel (tw203 H.1)) (by decide) Ec218 (g := (mkF m 236 #[vI p0, vI p1, vI p2, vI p3, vA a178, vA a179, vA a181, vI ((XT.ushr p1 (4 : Int32)) - ((XT.ushr p1 (4 : Int32)) / (3 : Int32)) * (3 : Int32)), .val .null, vA a213, vI (p0 &&& (3 : Int32)), vA a217, vI 0, .unset] [(.ref a217)])) rfl (by rw [hml]; rfl) [] [] (lenOf pd_9 rfl) rfl (Wd := 0) (Nat.le_refl _) (hb hby at_236) (by decide) (by decide) [] (fun _ _ _ q => q.2) all0 (fun vm0 hZ => payN (ct_hb_n H a217 A218.old Ff218) (tw204 H.1) (tw56 H.1) (by decide) (by decide) hZ)
        obtain ⟨Q221, N221, -⟩ := Q221
        obtain ⟨rfl, q221⟩ := Q221
        have q221 := q221.symm
        subst q221
        have A221 := AA221 [] all0
        refine Run.st (T221.setTop (mkF m 239 #[vI p0, vI p1, vI p2, vI p3, vA a178, vA a179, vA a181, vI ((XT.ushr p1 (4 : Int32)) - ((XT.ushr p1 (4 : Int32)) / (3 : Int32)) * (3 : Int32)), .val .null, vA a213, vI (p0 &&& (3 : Int32)), vA a217, vI 0, .unset] [.int 0])) st221 ?_
        refine Run.st (T221.setTop (mkF m 252 #[vI p0, vI p1, vI p2, vI p3, vA a178, vA a179, vA a181, vI ((XT.ushr p1 (4 : Int32)) - ((XT.ushr p1 (4 : Int32)) / (3 : Int32)) * (3 : Int32)), .val .null, vA a213, vI (p0 &&& (3 : Int32)), vA a217, vI 0, vI 0] [(.ref a217), .int 0])) (fun _ k => XS.istore A221.here hx rfl (hb hby at_239) rfl (l' := #[vI p0, vI p1, vI p2, vI p3, vA a178, vA a179, vA a181, vI ((XT.ushr p1 (4 : Int32)) - ((XT.ushr p1 (4 : Int32)) / (3 : Int32)) * (3 : Int32)), .val .null, vA a213, vI (p0 &&& (3 : Int32)), vA a217, vI 0, vI 0]) rfl (XS.iload A221.here hx rfl (hb hby at_241) rfl (XS.iload A221.here hx rfl (hb hby at_243) rfl (XS.icmpNo A221.here hx rfl (hb hby at_245) rfl (by decide) (XS.iload A221.here hx rfl (hb hby at_248) rfl (XS.aload A221.here hx rfl (hb hby at_250) rfl rfl k)))))) ?_
        obtain ⟨v222, T222, h222, AA222, K222, ⟨L222, Q222⟩, st222⟩ := A221.callV hx (y := (⟨"com/example/gate_to_handlers/gatetohandlers/HttpEntity", "getBody", "()Ljava/lang/Object;"⟩ : MethodName)) (z := (⟨"com/example/gate_to_handlers/gatetohandlers/HttpEntity", "getBody", "()Ljava/lang/Object;"⟩ : MethodName)) (tw205 H.1) (tw206 H.1) (tw208 H.1) (tw207 H.1) (nfSel (tw208 H.1)) (by decide) Ec218 (g := (mkF m 252 #[vI p0, vI p1, vI p2, vI p3, vA a178, vA a179, vA a181, vI ((XT.ushr p1 (4 : Int32)) - ((XT.ushr p1 (4 : Int32)) / (3 : Int32)) * (3 : Int32)), .val .null, vA a213, vI (p0 &&& (3 : Int32)), vA a217, vI 0, vI 0] [(.ref a217), .int 0])) rfl (by rw [hml]; rfl) [] [(.int (0 : Int32))] (lenOf pd_15 rfl) rfl (Wd := 1) (Nat.le_refl _) (hb hby at_252) (by decide) (by decide) [] (fun _ _ _ q => q.2) all0 (fun vm0 hZ => payN (ct_gb_n H a217 A221.old Ff218) (tw209 H.1) (tw56 H.1) (by decide) (by decide) hZ)
        obtain ⟨Q222, N222, -⟩ := Q222
        obtain ⟨rfl, q222⟩ := Q222
        have q222 := q222.symm
        subst q222
        have A222 := AA222 [] all0
        refine Run.st (T222.setTop (mkF m 255 #[vI p0, vI p1, vI p2, vI p3, vA a178, vA a179, vA a181, vI ((XT.ushr p1 (4 : Int32)) - ((XT.ushr p1 (4 : Int32)) / (3 : Int32)) * (3 : Int32)), .val .null, vA a213, vI (p0 &&& (3 : Int32)), vA a217, vI 0, vI 0] [.null, .int 0])) st222 ?_
        refine Run.st (T222.setTop (mkF m 271 #[vI p0, vI p1, vI p2, vI p3, vA a178, vA a179, vA a181, vI ((XT.ushr p1 (4 : Int32)) - ((XT.ushr p1 (4 : Int32)) / (3 : Int32)) * (3 : Int32)), .val .null, vA a213, vI (p0 &&& (3 : Int32)), vA a217, vI 0, vI 0] [.int 1])) (fun _ k => XS.ifnullYes A222.here hx rfl (pc0 := 255) (pc' := 262) rfl (hb hby at_255) rfl (by decide) (by decide) (XS.iconst A222.here hx rfl (hb hby at_262) (XS.icmpNo A222.here hx rfl (hb hby at_263) rfl (by decide) (XS.iconst A222.here hx rfl (hb hby at_266) (XS.goto A222.here hx rfl (pc0 := 267) (pc' := 271) rfl (hb hby at_267) (by decide) (by decide) k))))) ?_
        exact A222.leaveW hlk hh0 (some (.int (1 : Int32))) (fun q => by rw [hrt] at q; cases q) (by decide) (by decide) rfl (fun X hr => retN X hx (t := .boolean) hrt (by simp) (hb hby at_271) hr)
      · refine Run.st (T214.setTop (mkF m 157 #[vI p0, vI p1, vI p2, vI p3, vA a178, vA a179, vA a181, vI ((XT.ushr p1 (4 : Int32)) - ((XT.ushr p1 (4 : Int32)) / (3 : Int32)) * (3 : Int32)), .val .null, vA a213, vI (p0 &&& (3 : Int32)), .unset, .unset, .unset] [.int 1, .int (p0 &&& (3 : Int32))])) (fun _ k => XS.ifYes A214.here hx rfl (pc0 := 136) (pc' := 154) rfl (hb hby at_136) rfl (by rw [if0]; exact (feq c216).2) (by decide) (by decide) (XS.iload A214.here hx rfl (hb hby at_154) rfl (XS.iconst A214.here hx rfl (hb hby at_156) k))) ?_
        by_cases c223 : (p0 &&& (3 : Int32)) = (1 : Int32)
        · refine Run.st (T214.setTop (mkF m 160 #[vI p0, vI p1, vI p2, vI p3, vA a178, vA a179, vA a181, vI ((XT.ushr p1 (4 : Int32)) - ((XT.ushr p1 (4 : Int32)) / (3 : Int32)) * (3 : Int32)), .val .null, vA a213, vI (p0 &&& (3 : Int32)), .unset, .unset, .unset] [])) (fun _ k => XS.icmpNo A214.here hx rfl (hb hby at_157) rfl (teq c223).2 k) ?_
          obtain ⟨a224, T224, h224, A224, E224, g224, Ex224, D224, st224⟩ := A214.newO hx (tw54 H.1) (tw55 H.1) (tw56 H.1) (g := (mkF m 160 #[vI p0, vI p1, vI p2, vI p3, vA a178, vA a179, vA a181, vI ((XT.ushr p1 (4 : Int32)) - ((XT.ushr p1 (4 : Int32)) / (3 : Int32)) * (3 : Int32)), .val .null, vA a213, vI (p0 &&& (3 : Int32)), .unset, .unset, .unset] [])) rfl (hb hby at_160) (by decide) (by decide)
          refine Run.st (T224.setTop (mkF m 163 #[vI p0, vI p1, vI p2, vI p3, vA a178, vA a179, vA a181, vI ((XT.ushr p1 (4 : Int32)) - ((XT.ushr p1 (4 : Int32)) / (3 : Int32)) * (3 : Int32)), .val .null, vA a213, vI (p0 &&& (3 : Int32)), .unset, .unset, .unset] [(.ref a224)])) st224 ?_
          refine Run.st (T224.setTop (mkF m 166 #[vI p0, vI p1, vI p2, vI p3, vA a178, vA a179, vA a181, vI ((XT.ushr p1 (4 : Int32)) - ((XT.ushr p1 (4 : Int32)) / (3 : Int32)) * (3 : Int32)), .val .null, vA a213, vI (p0 &&& (3 : Int32)), .unset, .unset, .unset] [.null, (.ref a224), (.ref a224)])) (fun _ k => XS.dup A224.here hx rfl (hb hby at_163) rfl rfl (XS.aload A224.here hx rfl (hb hby at_164) rfl rfl k)) ?_
          have F226 : Fld Z h224 a224 "com/example/gate_to_handlers/gatetohandlers/HttpEntity" "body" "Ljava/lang/Object;" .null := D224 (Or.inr (tw65 H.1)) (ty := (.object "java/lang/Object")) (by decide)
          have F227 : Fld Z h224 a224 "com/example/gate_to_handlers/gatetohandlers/HttpEntity" "headers" "Lcom/example/gate_to_handlers/gatetohandlers/HttpHeaders;" .null := D224 (Or.inr (tw199 H.1)) (ty := (.object "com/example/gate_to_handlers/gatetohandlers/HttpHeaders")) (by decide)
          obtain ⟨v225, T225, h225, AA225, K225, ⟨L225, Q225⟩, st225⟩ := A224.callI hx (y := (⟨"com/example/gate_to_handlers/gatetohandlers/HttpEntity", "<init>", "(Ljava/lang/Object;)V"⟩ : MethodName)) rfl (tw214 H.1) (tw215 H.1) (tw216 H.1) (by decide) (g := (mkF m 166 #[vI p0, vI p1, vI p2, vI p3, vA a178, vA a179, vA a181, vI ((XT.ushr p1 (4 : Int32)) - ((XT.ushr p1 (4 : Int32)) / (3 : Int32)) * (3 : Int32)), .val .null, vA a213, vI (p0 &&& (3 : Int32)), .unset, .unset, .unset] [.null, (.ref a224), (.ref a224)])) rfl (by rw [hml]; rfl) a224 [.null] [(.ref a224)] (lenOf pd_16 rfl) rfl (Wd := 1) (Nat.le_refl _) (hb hby at_166) (by decide) (by decide) [a224] (fun _ _ _ q => q.2) (allS (List.mem_of_getElem? (i := 0) rfl) all0) (fun vm0 hZ => payN (ct_heo H a224 .null .null .null A224.old Ex224 (A224.nle (List.mem_of_getElem? (i := 0) rfl)) Ex224.lt F226 F227 rfl) (tw216 H.1) (tw56 H.1) (by decide) (by decide) hZ)
          obtain ⟨Q225, N225, -⟩ := Q225
          obtain ⟨rfl, Ec225, Ff225⟩ := Q225
          have A225 := AA225 [] all0
          refine Run.st (T225.setTop (mkF m 169 #[vI p0, vI p1, vI p2, vI p3, vA a178, vA a179, vA a181, vI ((XT.ushr p1 (4 : Int32)) - ((XT.ushr p1 (4 : Int32)) / (3 : Int32)) * (3 : Int32)), .val .null, vA a213, vI (p0 &&& (3 : Int32)), .unset, .unset, .unset] [(.ref a224)])) st225 ?_
          refine Run.st (T225.setTop (mkF m 236 #[vI p0, vI p1, vI p2, vI p3, vA a178, vA a179, vA a181, vI ((XT.ushr p1 (4 : Int32)) - ((XT.ushr p1 (4 : Int32)) / (3 : Int32)) * (3 : Int32)), .val .null, vA a213, vI (p0 &&& (3 : Int32)), vA a224, vI 0, .unset] [(.ref a224)])) (fun _ k => XS.astore A225.here hx rfl (hb hby at_169) rfl rfl (l' := #[vI p0, vI p1, vI p2, vI p3, vA a178, vA a179, vA a181, vI ((XT.ushr p1 (4 : Int32)) - ((XT.ushr p1 (4 : Int32)) / (3 : Int32)) * (3 : Int32)), .val .null, vA a213, vI (p0 &&& (3 : Int32)), vA a224, .unset, .unset]) rfl (XS.aload A225.here hx rfl (hb hby at_171) rfl rfl (XS.ifnullYes A225.here hx rfl (pc0 := 173) (pc' := 180) rfl (hb hby at_173) rfl (by decide) (by decide) (XS.iconst A225.here hx rfl (hb hby at_180) (XS.istore A225.here hx rfl (hb hby at_181) rfl (l' := #[vI p0, vI p1, vI p2, vI p3, vA a178, vA a179, vA a181, vI ((XT.ushr p1 (4 : Int32)) - ((XT.ushr p1 (4 : Int32)) / (3 : Int32)) * (3 : Int32)), .val .null, vA a213, vI (p0 &&& (3 : Int32)), vA a224, vI 0, .unset]) rfl (XS.goto A225.here hx rfl (pc0 := 183) (pc' := 234) rfl (hb hby at_183) (by decide) (by decide) (XS.aload A225.here hx rfl (hb hby at_234) rfl rfl k))))))) ?_
          obtain ⟨v228, T228, h228, AA228, K228, ⟨L228, Q228⟩, st228⟩ := A225.callV hx (y := (⟨"com/example/gate_to_handlers/gatetohandlers/HttpEntity", "hasBody", "()Z"⟩ : MethodName)) (z := (⟨"com/example/gate_to_handlers/gatetohandlers/HttpEntity", "hasBody", "()Z"⟩ : MethodName)) (tw200 H.1) (tw201 H.1) (tw203 H.1) (tw202 H.1) (nfSel (tw203 H.1)) (by decide) Ec225 (g := (mkF m 236 #[vI p0, vI p1, vI p2, vI p3, vA a178, vA a179, vA a181, vI ((XT.ushr p1 (4 : Int32)) - ((XT.ushr p1 (4 : Int32)) / (3 : Int32)) * (3 : Int32)), .val .null, vA a213, vI (p0 &&& (3 : Int32)), vA a224, vI 0, .unset] [(.ref a224)])) rfl (by rw [hml]; rfl) [] [] (lenOf pd_9 rfl) rfl (Wd := 0) (Nat.le_refl _) (hb hby at_236) (by decide) (by decide) [] (fun _ _ _ q => q.2) all0 (fun vm0 hZ => payN (ct_hb_n H a224 A225.old Ff225) (tw204 H.1) (tw56 H.1) (by decide) (by decide) hZ)
          obtain ⟨Q228, N228, -⟩ := Q228
          obtain ⟨rfl, q228⟩ := Q228
          have q228 := q228.symm
          subst q228
          have A228 := AA228 [] all0
          refine Run.st (T228.setTop (mkF m 239 #[vI p0, vI p1, vI p2, vI p3, vA a178, vA a179, vA a181, vI ((XT.ushr p1 (4 : Int32)) - ((XT.ushr p1 (4 : Int32)) / (3 : Int32)) * (3 : Int32)), .val .null, vA a213, vI (p0 &&& (3 : Int32)), vA a224, vI 0, .unset] [.int 0])) st228 ?_
          refine Run.st (T228.setTop (mkF m 252 #[vI p0, vI p1, vI p2, vI p3, vA a178, vA a179, vA a181, vI ((XT.ushr p1 (4 : Int32)) - ((XT.ushr p1 (4 : Int32)) / (3 : Int32)) * (3 : Int32)), .val .null, vA a213, vI (p0 &&& (3 : Int32)), vA a224, vI 0, vI 0] [(.ref a224), .int 0])) (fun _ k => XS.istore A228.here hx rfl (hb hby at_239) rfl (l' := #[vI p0, vI p1, vI p2, vI p3, vA a178, vA a179, vA a181, vI ((XT.ushr p1 (4 : Int32)) - ((XT.ushr p1 (4 : Int32)) / (3 : Int32)) * (3 : Int32)), .val .null, vA a213, vI (p0 &&& (3 : Int32)), vA a224, vI 0, vI 0]) rfl (XS.iload A228.here hx rfl (hb hby at_241) rfl (XS.iload A228.here hx rfl (hb hby at_243) rfl (XS.icmpNo A228.here hx rfl (hb hby at_245) rfl (by decide) (XS.iload A228.here hx rfl (hb hby at_248) rfl (XS.aload A228.here hx rfl (hb hby at_250) rfl rfl k)))))) ?_
          obtain ⟨v229, T229, h229, AA229, K229, ⟨L229, Q229⟩, st229⟩ := A228.callV hx (y := (⟨"com/example/gate_to_handlers/gatetohandlers/HttpEntity", "getBody", "()Ljava/lang/Object;"⟩ : MethodName)) (z := (⟨"com/example/gate_to_handlers/gatetohandlers/HttpEntity", "getBody", "()Ljava/lang/Object;"⟩ : MethodName)) (tw205 H.1) (tw206 H.1) (tw208 H.1) (tw207 H.1) (nfSel (tw208 H.1)) (by decide) Ec225 (g := (mkF m 252 #[vI p0, vI p1, vI p2, vI p3, vA a178, vA a179, vA a181, vI ((XT.ushr p1 (4 : Int32)) - ((XT.ushr p1 (4 : Int32)) / (3 : Int32)) * (3 : Int32)), .val .null, vA a213, vI (p0 &&& (3 : Int32)), vA a224, vI 0, vI 0] [(.ref a224), .int 0])) rfl (by rw [hml]; rfl) [] [(.int (0 : Int32))] (lenOf pd_15 rfl) rfl (Wd := 1) (Nat.le_refl _) (hb hby at_252) (by decide) (by decide) [] (fun _ _ _ q => q.2) all0 (fun vm0 hZ => payN (ct_gb_n H a224 A228.old Ff225) (tw209 H.1) (tw56 H.1) (by decide) (by decide) hZ)
          obtain ⟨Q229, N229, -⟩ := Q229
          obtain ⟨rfl, q229⟩ := Q229
          have q229 := q229.symm
          subst q229
          have A229 := AA229 [] all0
          refine Run.st (T229.setTop (mkF m 255 #[vI p0, vI p1, vI p2, vI p3, vA a178, vA a179, vA a181, vI ((XT.ushr p1 (4 : Int32)) - ((XT.ushr p1 (4 : Int32)) / (3 : Int32)) * (3 : Int32)), .val .null, vA a213, vI (p0 &&& (3 : Int32)), vA a224, vI 0, vI 0] [.null, .int 0])) st229 ?_
          refine Run.st (T229.setTop (mkF m 271 #[vI p0, vI p1, vI p2, vI p3, vA a178, vA a179, vA a181, vI ((XT.ushr p1 (4 : Int32)) - ((XT.ushr p1 (4 : Int32)) / (3 : Int32)) * (3 : Int32)), .val .null, vA a213, vI (p0 &&& (3 : Int32)), vA a224, vI 0, vI 0] [.int 1])) (fun _ k => XS.ifnullYes A229.here hx rfl (pc0 := 255) (pc' := 262) rfl (hb hby at_255) rfl (by decide) (by decide) (XS.iconst A229.here hx rfl (hb hby at_262) (XS.icmpNo A229.here hx rfl (hb hby at_263) rfl (by decide) (XS.iconst A229.here hx rfl (hb hby at_266) (XS.goto A229.here hx rfl (pc0 := 267) (pc' := 271) rfl (hb hby at_267) (by decide) (by decide) k))))) ?_
          exact A229.leaveW hlk hh0 (some (.int (1 : Int32))) (fun q => by rw [hrt] at q; cases q) (by decide) (by decide) rfl (fun X hr => retN X hx (t := .boolean) hrt (by simp) (hb hby at_271) hr)
        · refine Run.st (T214.setTop (mkF m 189 #[vI p0, vI p1, vI p2, vI p3, vA a178, vA a179, vA a181, vI ((XT.ushr p1 (4 : Int32)) - ((XT.ushr p1 (4 : Int32)) / (3 : Int32)) * (3 : Int32)), .val .null, vA a213, vI (p0 &&& (3 : Int32)), .unset, .unset, .unset] [.int 2, .int (p0 &&& (3 : Int32))])) (fun _ k => XS.icmpYes A214.here hx rfl (pc0 := 157) (pc' := 186) rfl (hb hby at_157) rfl (feq c223).2 (by decide) (by decide) (XS.iload A214.here hx rfl (hb hby at_186) rfl (XS.iconst A214.here hx rfl (hb hby at_188) k))) ?_
          by_cases c230 : (p0 &&& (3 : Int32)) = (2 : Int32)
          · refine Run.st (T214.setTop (mkF m 192 #[vI p0, vI p1, vI p2, vI p3, vA a178, vA a179, vA a181, vI ((XT.ushr p1 (4 : Int32)) - ((XT.ushr p1 (4 : Int32)) / (3 : Int32)) * (3 : Int32)), .val .null, vA a213, vI (p0 &&& (3 : Int32)), .unset, .unset, .unset] [])) (fun _ k => XS.icmpNo A214.here hx rfl (hb hby at_189) rfl (teq c230).2 k) ?_
            obtain ⟨a231, T231, h231, A231, E231, g231, Ex231, D231, st231⟩ := A214.newO hx (tw54 H.1) (tw55 H.1) (tw56 H.1) (g := (mkF m 192 #[vI p0, vI p1, vI p2, vI p3, vA a178, vA a179, vA a181, vI ((XT.ushr p1 (4 : Int32)) - ((XT.ushr p1 (4 : Int32)) / (3 : Int32)) * (3 : Int32)), .val .null, vA a213, vI (p0 &&& (3 : Int32)), .unset, .unset, .unset] [])) rfl (hb hby at_192) (by decide) (by decide)
            refine Run.st (T231.setTop (mkF m 195 #[vI p0, vI p1, vI p2, vI p3, vA a178, vA a179, vA a181, vI ((XT.ushr p1 (4 : Int32)) - ((XT.ushr p1 (4 : Int32)) / (3 : Int32)) * (3 : Int32)), .val .null, vA a213, vI (p0 &&& (3 : Int32)), .unset, .unset, .unset] [(.ref a231)])) st231 ?_
            refine Run.st (T231.setTop (mkF m 200 #[vI p0, vI p1, vI p2, vI p3, vA a178, vA a179, vA a181, vI ((XT.ushr p1 (4 : Int32)) - ((XT.ushr p1 (4 : Int32)) / (3 : Int32)) * (3 : Int32)), .val .null, vA a213, vI (p0 &&& (3 : Int32)), .unset, .unset, .unset] [(.ref a213), .null, (.ref a231), (.ref a231)])) (fun _ k => XS.dup A231.here hx rfl (hb hby at_195) rfl rfl (XS.aload A231.here hx rfl (hb hby at_196) rfl rfl (XS.aload A231.here hx rfl (hb hby at_198) rfl rfl k))) ?_
            have F233 : Fld Z h231 a231 "com/example/gate_to_handlers/gatetohandlers/HttpEntity" "body" "Ljava/lang/Object;" .null := D231 (Or.inr (tw65 H.1)) (ty := (.object "java/lang/Object")) (by decide)
            have F234 : Fld Z h231 a231 "com/example/gate_to_handlers/gatetohandlers/HttpEntity" "headers" "Lcom/example/gate_to_handlers/gatetohandlers/HttpHeaders;" .null := D231 (Or.inr (tw199 H.1)) (ty := (.object "com/example/gate_to_handlers/gatetohandlers/HttpHeaders")) (by decide)
            have X235 : Ext h214 h231 := E231
            have f236 := Ff214.ext X235
            have f237 := Te214.ext X235
            have f238 := Tr214.ext X235
            have f239 := Ts214.ext X235
            have f240 := Tm214.ext X235
            have f241 := Ec214.ext X235
            obtain ⟨v232, T232, h232, AA232, K232, ⟨L232, Q232⟩, st232⟩ := A231.callI hx (y := (⟨"com/example/gate_to_handlers/gatetohandlers/HttpEntity", "<init>", "(Ljava/lang/Object;Lcom/example/gate_to_handlers/gatetohandlers/HttpHeaders;)V"⟩ : MethodName)) rfl (tw213 H.1) (tw61 H.1) (tw62 H.1) (by decide) (g := (mkF m 200 #[vI p0, vI p1, vI p2, vI p3, vA a178, vA a179, vA a181, vI ((XT.ushr p1 (4 : Int32)) - ((XT.ushr p1 (4 : Int32)) / (3 : Int32)) * (3 : Int32)), .val .null, vA a213, vI (p0 &&& (3 : Int32)), .unset, .unset, .unset] [(.ref a213), .null, (.ref a231), (.ref a231)])) rfl (by rw [hml]; rfl) a231 [.null, (.ref a213)] [(.ref a231)] (lenOf pd_13 rfl) rfl (Wd := 1) (Nat.le_refl _) (hb hby at_200) (by decide) (by decide) [a231, t214] (fun _ _ _ q => q.2) (allS (List.mem_of_getElem? (i := 0) rfl) (allS (List.mem_of_getElem? (i := 1) rfl) all0)) (fun vm0 hZ => payN (ct_heg H a231 .null .null .null a213 t214 A231.old Ex231 (A231.nle (List.mem_of_getElem? (i := 0) rfl)) Ex231.lt F233 F234 rfl f241 f236 f237 f238 f239 f240 (A231.nle (List.mem_of_getElem? (i := 1) rfl)) f237.lt) (tw62 H.1) (tw56 H.1) (by decide) (by decide) hZ)
            obtain ⟨Q232, N232, -⟩ := Q232
            obtain ⟨rfl, Ec232, Ff232⟩ := Q232
            have A232 := AA232 [] all0
            refine Run.st (T232.setTop (mkF m 203 #[vI p0, vI p1, vI p2, vI p3, vA a178, vA a179, vA a181, vI ((XT.ushr p1 (4 : Int32)) - ((XT.ushr p1 (4 : Int32)) / (3 : Int32)) * (3 : Int32)), .val .null, vA a213, vI (p0 &&& (3 : Int32)), .unset, .unset, .unset] [(.ref a231)])) st232 ?_
            refine Run.st (T232.setTop (mkF m 236 #[vI p0, vI p1, vI p2, vI p3, vA a178, vA a179, vA a181, vI ((XT.ushr p1 (4 : Int32)) - ((XT.ushr p1 (4 : Int32)) / (3 : Int32)) * (3 : Int32)), .val .null, vA a213, vI (p0 &&& (3 : Int32)), vA a231, vI 0, .unset] [(.ref a231)])) (fun _ k => XS.astore A232.here hx rfl (hb hby at_203) rfl rfl (l' := #[vI p0, vI p1, vI p2, vI p3, vA a178, vA a179, vA a181, vI ((XT.ushr p1 (4 : Int32)) - ((XT.ushr p1 (4 : Int32)) / (3 : Int32)) * (3 : Int32)), .val .null, vA a213, vI (p0 &&& (3 : Int32)), vA a231, .unset, .unset]) rfl (XS.aload A232.here hx rfl (hb hby at_205) rfl rfl (XS.ifnullYes A232.here hx rfl (pc0 := 207) (pc' := 214) rfl (hb hby at_207) rfl (by decide) (by decide) (XS.iconst A232.here hx rfl (hb hby at_214) (XS.istore A232.here hx rfl (hb hby at_215) rfl (l' := #[vI p0, vI p1, vI p2, vI p3, vA a178, vA a179, vA a181, vI ((XT.ushr p1 (4 : Int32)) - ((XT.ushr p1 (4 : Int32)) / (3 : Int32)) * (3 : Int32)), .val .null, vA a213, vI (p0 &&& (3 : Int32)), vA a231, vI 0, .unset]) rfl (XS.goto A232.here hx rfl (pc0 := 217) (pc' := 234) rfl (hb hby at_217) (by decide) (by decide) (XS.aload A232.here hx rfl (hb hby at_234) rfl rfl k))))))) ?_
            obtain ⟨v242, T242, h242, AA242, K242, ⟨L242, Q242⟩, st242⟩ := A232.callV hx (y := (⟨"com/example/gate_to_handlers/gatetohandlers/HttpEntity", "hasBody", "()Z"⟩ : MethodName)) (z := (⟨"com/example/gate_to_handlers/gatetohandlers/HttpEntity", "hasBody", "()Z"⟩ : MethodName)) (tw200 H.1) (tw201 H.1) (tw203 H.1) (tw202 H.1) (nfSel (tw203 H.1)) (by decide) Ec232 (g := (mkF m 236 #[vI p0, vI p1, vI p2, vI p3, vA a178, vA a179, vA a181, vI ((XT.ushr p1 (4 : Int32)) - ((XT.ushr p1 (4 : Int32)) / (3 : Int32)) * (3 : Int32)), .val .null, vA a213, vI (p0 &&& (3 : Int32)), vA a231, vI 0, .unset] [(.ref a231)])) rfl (by rw [hml]; rfl) [] [] (lenOf pd_9 rfl) rfl (Wd := 0) (Nat.le_refl _) (hb hby at_236) (by decide) (by decide) [] (fun _ _ _ q => q.2) all0 (fun vm0 hZ => payN (ct_hb_n H a231 A232.old Ff232) (tw204 H.1) (tw56 H.1) (by decide) (by decide) hZ)
            obtain ⟨Q242, N242, -⟩ := Q242
            obtain ⟨rfl, q242⟩ := Q242
            have q242 := q242.symm
            subst q242
            have A242 := AA242 [] all0
            refine Run.st (T242.setTop (mkF m 239 #[vI p0, vI p1, vI p2, vI p3, vA a178, vA a179, vA a181, vI ((XT.ushr p1 (4 : Int32)) - ((XT.ushr p1 (4 : Int32)) / (3 : Int32)) * (3 : Int32)), .val .null, vA a213, vI (p0 &&& (3 : Int32)), vA a231, vI 0, .unset] [.int 0])) st242 ?_
            refine Run.st (T242.setTop (mkF m 252 #[vI p0, vI p1, vI p2, vI p3, vA a178, vA a179, vA a181, vI ((XT.ushr p1 (4 : Int32)) - ((XT.ushr p1 (4 : Int32)) / (3 : Int32)) * (3 : Int32)), .val .null, vA a213, vI (p0 &&& (3 : Int32)), vA a231, vI 0, vI 0] [(.ref a231), .int 0])) (fun _ k => XS.istore A242.here hx rfl (hb hby at_239) rfl (l' := #[vI p0, vI p1, vI p2, vI p3, vA a178, vA a179, vA a181, vI ((XT.ushr p1 (4 : Int32)) - ((XT.ushr p1 (4 : Int32)) / (3 : Int32)) * (3 : Int32)), .val .null, vA a213, vI (p0 &&& (3 : Int32)), vA a231, vI 0, vI 0]) rfl (XS.iload A242.here hx rfl (hb hby at_241) rfl (XS.iload A242.here hx rfl (hb hby at_243) rfl (XS.icmpNo A242.here hx rfl (hb hby at_245) rfl (by decide) (XS.iload A242.here hx rfl (hb hby at_248) rfl (XS.aload A242.here hx rfl (hb hby at_250) rfl rfl k)))))) ?_
            obtain ⟨v243, T243, h243, AA243, K243, ⟨L243, Q243⟩, st243⟩ := A242.callV hx (y := (⟨"com/example/gate_to_handlers/gatetohandlers/HttpEntity", "getBody", "()Ljava/lang/Object;"⟩ : MethodName)) (z := (⟨"com/example/gate_to_handlers/gatetohandlers/HttpEntity", "getBody", "()Ljava/lang/Object;"⟩ : MethodName)) (tw205 H.1) (tw206 H.1) (tw208 H.1) (tw207 H.1) (nfSel (tw208 H.1)) (by decide) Ec232 (g := (mkF m 252 #[vI p0, vI p1, vI p2, vI p3, vA a178, vA a179, vA a181, vI ((XT.ushr p1 (4 : Int32)) - ((XT.ushr p1 (4 : Int32)) / (3 : Int32)) * (3 : Int32)), .val .null, vA a213, vI (p0 &&& (3 : Int32)), vA a231, vI 0, vI 0] [(.ref a231), .int 0])) rfl (by rw [hml]; rfl) [] [(.int (0 : Int32))] (lenOf pd_15 rfl) rfl (Wd := 1) (Nat.le_refl _) (hb hby at_252) (by decide) (by decide) [] (fun _ _ _ q => q.2) all0 (fun vm0 hZ => payN (ct_gb_n H a231 A242.old Ff232) (tw209 H.1) (tw56 H.1) (by decide) (by decide) hZ)
            obtain ⟨Q243, N243, -⟩ := Q243
            obtain ⟨rfl, q243⟩ := Q243
            have q243 := q243.symm
            subst q243
            have A243 := AA243 [] all0
            refine Run.st (T243.setTop (mkF m 255 #[vI p0, vI p1, vI p2, vI p3, vA a178, vA a179, vA a181, vI ((XT.ushr p1 (4 : Int32)) - ((XT.ushr p1 (4 : Int32)) / (3 : Int32)) * (3 : Int32)), .val .null, vA a213, vI (p0 &&& (3 : Int32)), vA a231, vI 0, vI 0] [.null, .int 0])) st243 ?_
            refine Run.st (T243.setTop (mkF m 271 #[vI p0, vI p1, vI p2, vI p3, vA a178, vA a179, vA a181, vI ((XT.ushr p1 (4 : Int32)) - ((XT.ushr p1 (4 : Int32)) / (3 : Int32)) * (3 : Int32)), .val .null, vA a213, vI (p0 &&& (3 : Int32)), vA a231, vI 0, vI 0] [.int 1])) (fun _ k => XS.ifnullYes A243.here hx rfl (pc0 := 255) (pc' := 262) rfl (hb hby at_255) rfl (by decide) (by decide) (XS.iconst A243.here hx rfl (hb hby at_262) (XS.icmpNo A243.here hx rfl (hb hby at_263) rfl (by decide) (XS.iconst A243.here hx rfl (hb hby at_266) (XS.goto A243.here hx rfl (pc0 := 267) (pc' := 271) rfl (hb hby at_267) (by decide) (by decide) k))))) ?_
            exact A243.leaveW hlk hh0 (some (.int (1 : Int32))) (fun q => by rw [hrt] at q; cases q) (by decide) (by decide) rfl (fun X hr => retN X hx (t := .boolean) hrt (by simp) (hb hby at_271) hr)
          · refine Run.st (T214.setTop (mkF m 220 #[vI p0, vI p1, vI p2, vI p3, vA a178, vA a179, vA a181, vI ((XT.ushr p1 (4 : Int32)) - ((XT.ushr p1 (4 : Int32)) / (3 : Int32)) * (3 : Int32)), .val .null, vA a213, vI (p0 &&& (3 : Int32)), .unset, .unset, .unset] [])) (fun _ k => XS.icmpYes A214.here hx rfl (pc0 := 189) (pc' := 220) rfl (hb hby at_189) rfl (feq c230).2 (by decide) (by decide) k) ?_
            obtain ⟨a244, T244, h244, A244, E244, g244, Ex244, D244, st244⟩ := A214.newO hx (tw54 H.1) (tw55 H.1) (tw56 H.1) (g := (mkF m 220 #[vI p0, vI p1, vI p2, vI p3, vA a178, vA a179, vA a181, vI ((XT.ushr p1 (4 : Int32)) - ((XT.ushr p1 (4 : Int32)) / (3 : Int32)) * (3 : Int32)), .val .null, vA a213, vI (p0 &&& (3 : Int32)), .unset, .unset, .unset] [])) rfl (hb hby at_220) (by decide) (by decide)
            refine Run.st (T244.setTop (mkF m 223 #[vI p0, vI p1, vI p2, vI p3, vA a178, vA a179, vA a181, vI ((XT.ushr p1 (4 : Int32)) - ((XT.ushr p1 (4 : Int32)) / (3 : Int32)) * (3 : Int32)), .val .null, vA a213, vI (p0 &&& (3 : Int32)), .unset, .unset, .unset] [(.ref a244)])) st244 ?_
            refine Run.st (T244.setTop (mkF m 226 #[vI p0, vI p1, vI p2, vI p3, vA a178, vA a179, vA a181, vI ((XT.ushr p1 (4 : Int32)) - ((XT.ushr p1 (4 : Int32)) / (3 : Int32)) * (3 : Int32)), .val .null, vA a213, vI (p0 &&& (3 : Int32)), .unset, .unset, .unset] [(.ref a213), (.ref a244), (.ref a244)])) (fun _ k => XS.dup A244.here hx rfl (hb hby at_223) rfl rfl (XS.aload A244.here hx rfl (hb hby at_224) rfl rfl k)) ?_
            have F246 : Fld Z h244 a244 "com/example/gate_to_handlers/gatetohandlers/HttpEntity" "body" "Ljava/lang/Object;" .null := D244 (Or.inr (tw65 H.1)) (ty := (.object "java/lang/Object")) (by decide)
            have F247 : Fld Z h244 a244 "com/example/gate_to_handlers/gatetohandlers/HttpEntity" "headers" "Lcom/example/gate_to_handlers/gatetohandlers/HttpHeaders;" .null := D244 (Or.inr (tw199 H.1)) (ty := (.object "com/example/gate_to_handlers/gatetohandlers/HttpHeaders")) (by decide)
            have X248 : Ext h214 h244 := E244
            have f249 := Ff214.ext X248
            have f250 := Te214.ext X248
            have f251 := Tr214.ext X248
            have f252 := Ts214.ext X248
            have f253 := Tm214.ext X248
            have f254 := Ec214.ext X248
            obtain ⟨v245, T245, h245, AA245, K245, ⟨L245, Q245⟩, st245⟩ := A244.callI hx (y := (⟨"com/example/gate_to_handlers/gatetohandlers/HttpEntity", "<init>", "(Lcom/example/gate_to_handlers/gatetohandlers/HttpHeaders;)V"⟩ : MethodName)) rfl (tw210 H.1) (tw211 H.1) (tw212 H.1) (by decide) (g := (mkF m 226 #[vI p0, vI p1, vI p2, vI p3, vA a178, vA a179, vA a181, vI ((XT.ushr p1 (4 : Int32)) - ((XT.ushr p1 (4 : Int32)) / (3 : Int32)) * (3 : Int32)), .val .null, vA a213, vI (p0 &&& (3 : Int32)), .unset, .unset, .unset] [(.ref a213), (.ref a244), (.ref a244)])) rfl (by rw [hml]; rfl) a244 [(.ref a213)] [(.ref a244)] (lenOf pd_17 rfl) rfl (Wd := 1) (Nat.le_refl _) (hb hby at_226) (by decide) (by decide) [a244, t214] (fun _ _ _ q => q.2) (allS (List.mem_of_getElem? (i := 0) rfl) (allS (List.mem_of_getElem? (i := 1) rfl) all0)) (fun vm0 hZ => payN (ct_hehg H a244 .null .null a213 t214 A244.old Ex244 (A244.nle (List.mem_of_getElem? (i := 0) rfl)) Ex244.lt F246 F247 f254 f249 f250 f251 f252 f253 (A244.nle (List.mem_of_getElem? (i := 1) rfl)) f250.lt) (tw212 H.1) (tw56 H.1) (by decide) (by decide) hZ)
            obtain ⟨Q245, N245, -⟩ := Q245
            obtain ⟨rfl, Ec245, Ff245⟩ := Q245
            have A245 := AA245 [] all0
            refine Run.st (T245.setTop (mkF m 229 #[vI p0, vI p1, vI p2, vI p3, vA a178, vA a179, vA a181, vI ((XT.ushr p1 (4 : Int32)) - ((XT.ushr p1 (4 : Int32)) / (3 : Int32)) * (3 : Int32)), .val .null, vA a213, vI (p0 &&& (3 : Int32)), .unset, .unset, .unset] [(.ref a244)])) st245 ?_
            refine Run.st (T245.setTop (mkF m 236 #[vI p0, vI p1, vI p2, vI p3, vA a178, vA a179, vA a181, vI ((XT.ushr p1 (4 : Int32)) - ((XT.ushr p1 (4 : Int32)) / (3 : Int32)) * (3 : Int32)), .val .null, vA a213, vI (p0 &&& (3 : Int32)), vA a244, vI 0, .unset] [(.ref a244)])) (fun _ k => XS.astore A245.here hx rfl (hb hby at_229) rfl rfl (l' := #[vI p0, vI p1, vI p2, vI p3, vA a178, vA a179, vA a181, vI ((XT.ushr p1 (4 : Int32)) - ((XT.ushr p1 (4 : Int32)) / (3 : Int32)) * (3 : Int32)), .val .null, vA a213, vI (p0 &&& (3 : Int32)), vA a244, .unset, .unset]) rfl (XS.iconst A245.here hx rfl (hb hby at_231) (XS.istore A245.here hx rfl (hb hby at_232) rfl (l' := #[vI p0, vI p1, vI p2, vI p3, vA a178, vA a179, vA a181, vI ((XT.ushr p1 (4 : Int32)) - ((XT.ushr p1 (4 : Int32)) / (3 : Int32)) * (3 : Int32)), .val .null, vA a213, vI (p0 &&& (3 : Int32)), vA a244, vI 0, .unset]) rfl (XS.aload A245.here hx rfl (hb hby at_234) rfl rfl k)))) ?_
            obtain ⟨v255, T255, h255, AA255, K255, ⟨L255, Q255⟩, st255⟩ := A245.callV hx (y := (⟨"com/example/gate_to_handlers/gatetohandlers/HttpEntity", "hasBody", "()Z"⟩ : MethodName)) (z := (⟨"com/example/gate_to_handlers/gatetohandlers/HttpEntity", "hasBody", "()Z"⟩ : MethodName)) (tw200 H.1) (tw201 H.1) (tw203 H.1) (tw202 H.1) (nfSel (tw203 H.1)) (by decide) Ec245 (g := (mkF m 236 #[vI p0, vI p1, vI p2, vI p3, vA a178, vA a179, vA a181, vI ((XT.ushr p1 (4 : Int32)) - ((XT.ushr p1 (4 : Int32)) / (3 : Int32)) * (3 : Int32)), .val .null, vA a213, vI (p0 &&& (3 : Int32)), vA a244, vI 0, .unset] [(.ref a244)])) rfl (by rw [hml]; rfl) [] [] (lenOf pd_9 rfl) rfl (Wd := 0) (Nat.le_refl _) (hb hby at_236) (by decide) (by decide) [] (fun _ _ _ q => q.2) all0 (fun vm0 hZ => payN (ct_hb_n H a244 A245.old Ff245) (tw204 H.1) (tw56 H.1) (by decide) (by decide) hZ)
            obtain ⟨Q255, N255, -⟩ := Q255
            obtain ⟨rfl, q255⟩ := Q255
            have q255 := q255.symm
            subst q255
            have A255 := AA255 [] all0
            refine Run.st (T255.setTop (mkF m 239 #[vI p0, vI p1, vI p2, vI p3, vA a178, vA a179, vA a181, vI ((XT.ushr p1 (4 : Int32)) - ((XT.ushr p1 (4 : Int32)) / (3 : Int32)) * (3 : Int32)), .val .null, vA a213, vI (p0 &&& (3 : Int32)), vA a244, vI 0, .unset] [.int 0])) st255 ?_
            refine Run.st (T255.setTop (mkF m 252 #[vI p0, vI p1, vI p2, vI p3, vA a178, vA a179, vA a181, vI ((XT.ushr p1 (4 : Int32)) - ((XT.ushr p1 (4 : Int32)) / (3 : Int32)) * (3 : Int32)), .val .null, vA a213, vI (p0 &&& (3 : Int32)), vA a244, vI 0, vI 0] [(.ref a244), .int 0])) (fun _ k => XS.istore A255.here hx rfl (hb hby at_239) rfl (l' := #[vI p0, vI p1, vI p2, vI p3, vA a178, vA a179, vA a181, vI ((XT.ushr p1 (4 : Int32)) - ((XT.ushr p1 (4 : Int32)) / (3 : Int32)) * (3 : Int32)), .val .null, vA a213, vI (p0 &&& (3 : Int32)), vA a244, vI 0, vI 0]) rfl (XS.iload A255.here hx rfl (hb hby at_241) rfl (XS.iload A255.here hx rfl (hb hby at_243) rfl (XS.icmpNo A255.here hx rfl (hb hby at_245) rfl (by decide) (XS.iload A255.here hx rfl (hb hby at_248) rfl (XS.aload A255.here hx rfl (hb hby at_250) rfl rfl k)))))) ?_
            obtain ⟨v256, T256, h256, AA256, K256, ⟨L256, Q256⟩, st256⟩ := A255.callV hx (y := (⟨"com/example/gate_to_handlers/gatetohandlers/HttpEntity", "getBody", "()Ljava/lang/Object;"⟩ : MethodName)) (z := (⟨"com/example/gate_to_handlers/gatetohandlers/HttpEntity", "getBody", "()Ljava/lang/Object;"⟩ : MethodName)) (tw205 H.1) (tw206 H.1) (tw208 H.1) (tw207 H.1) (nfSel (tw208 H.1)) (by decide) Ec245 (g := (mkF m 252 #[vI p0, vI p1, vI p2, vI p3, vA a178, vA a179, vA a181, vI ((XT.ushr p1 (4 : Int32)) - ((XT.ushr p1 (4 : Int32)) / (3 : Int32)) * (3 : Int32)), .val .null, vA a213, vI (p0 &&& (3 : Int32)), vA a244, vI 0, vI 0] [(.ref a244), .int 0])) rfl (by rw [hml]; rfl) [] [(.int (0 : Int32))] (lenOf pd_15 rfl) rfl (Wd := 1) (Nat.le_refl _) (hb hby at_252) (by decide) (by decide) [] (fun _ _ _ q => q.2) all0 (fun vm0 hZ => payN (ct_gb_n H a244 A255.old Ff245) (tw209 H.1) (tw56 H.1) (by decide) (by decide) hZ)
            obtain ⟨Q256, N256, -⟩ := Q256
            obtain ⟨rfl, q256⟩ := Q256
            have q256 := q256.symm
            subst q256
            have A256 := AA256 [] all0
            refine Run.st (T256.setTop (mkF m 255 #[vI p0, vI p1, vI p2, vI p3, vA a178, vA a179, vA a181, vI ((XT.ushr p1 (4 : Int32)) - ((XT.ushr p1 (4 : Int32)) / (3 : Int32)) * (3 : Int32)), .val .null, vA a213, vI (p0 &&& (3 : Int32)), vA a244, vI 0, vI 0] [.null, .int 0])) st256 ?_
            refine Run.st (T256.setTop (mkF m 271 #[vI p0, vI p1, vI p2, vI p3, vA a178, vA a179, vA a181, vI ((XT.ushr p1 (4 : Int32)) - ((XT.ushr p1 (4 : Int32)) / (3 : Int32)) * (3 : Int32)), .val .null, vA a213, vI (p0 &&& (3 : Int32)), vA a244, vI 0, vI 0] [.int 1])) (fun _ k => XS.ifnullYes A256.here hx rfl (pc0 := 255) (pc' := 262) rfl (hb hby at_255) rfl (by decide) (by decide) (XS.iconst A256.here hx rfl (hb hby at_262) (XS.icmpNo A256.here hx rfl (hb hby at_263) rfl (by decide) (XS.iconst A256.here hx rfl (hb hby at_266) (XS.goto A256.here hx rfl (pc0 := 267) (pc' := 271) rfl (hb hby at_267) (by decide) (by decide) k))))) ?_
            exact A256.leaveW hlk hh0 (some (.int (1 : Int32))) (fun q => by rw [hrt] at q; cases q) (by decide) (by decide) rfl (fun X hr => retN X hx (t := .boolean) hrt (by simp) (hb hby at_271) hr)
  · refine Run.st (T183.setTop (mkF m 61 #[vI p0, vI p1, vI p2, vI p3, vA a178, vA a179, vA a181, vI ((XT.ushr p1 (4 : Int32)) - ((XT.ushr p1 (4 : Int32)) / (3 : Int32)) * (3 : Int32)), .val .null, .unset, .unset, .unset, .unset, .unset] [])) (fun _ k => XS.ifNo A183.here hx rfl (hb hby at_58) rfl (by rw [if0]; exact (feq c184).1) k) ?_
    have jn257 : ∀ (T257 : State) (h257 : Heap) (s8 : Addr), Wk true Z a0 EL n0 h0 [] "com/example/gate_to_handlers/gatetohandlers/HttpEntityHasBodyPinLaw" p l e room_1 s m #[(.int p0), (.int p1), (.int p2), (.int p3)] below meth c [a181, a179, a178] T257 h257 11 43 → Ext h183 h257 → Run p.tables e below (EndW Z EL s h0 [] n0 room_1 (Q_law Z p0 p1 p2 p3 h0)) (T257.setTop (mkF m 111 #[vI p0, vI p1, vI p2, vI p3, vA a178, vA a179, vA a181, vI ((XT.ushr p1 (4 : Int32)) - ((XT.ushr p1 (4 : Int32)) / (3 : Int32)) * (3 : Int32)), vA s8, .unset, .unset, .unset, .unset, .unset] [])) := by
      intro T257 h257 s8 A257 X257
      refine Run.st (T257.setTop (mkF m 117 #[vI p0, vI p1, vI p2, vI p3, vA a178, vA a179, vA a181, vI ((XT.ushr p1 (4 : Int32)) - ((XT.ushr p1 (4 : Int32)) / (3 : Int32)) * (3 : Int32)), vA s8, .val .null, .unset, .unset, .unset, .unset] [.int (p1 &&& (2 : Int32))])) (fun _ k => XS.aconstNull A257.here hx rfl (hb hby at_111) (XS.astore A257.here hx rfl (hb hby at_112) rfl rfl (l' := #[vI p0, vI p1, vI p2, vI p3, vA a178, vA a179, vA a181, vI ((XT.ushr p1 (4 : Int32)) - ((XT.ushr p1 (4 : Int32)) / (3 : Int32)) * (3 : Int32)), vA s8, .val .null, .unset, .unset, .unset, .unset]) rfl (XS.iloadN A257.here hx rfl (hb hby at_114) rfl (XS.iconst A257.here hx rfl (hb hby at_115) (XS.iand A257.here hx rfl (hb hby at_116) rfl k))))) ?_
      by_cases c258 : (p1 &&& (2 : Int32)) = (0 : Int32)
      · refine Run.st (T257.setTop (mkF m 136 #[vI p0, vI p1, vI p2, vI p3, vA a178, vA a179, vA a181, vI ((XT.ushr p1 (4 : Int32)) - ((XT.ushr p1 (4 : Int32)) / (3 : Int32)) * (3 : Int32)), vA s8, .val .null, vI (p0 &&& (3 : Int32)), .unset, .unset, .unset] [.int (p0 &&& (3 : Int32))])) (fun _ k => XS.ifYes A257.here hx rfl (pc0 := 117) (pc' := 129) rfl (hb hby at_117) rfl (by rw [if0]; exact (teq c258).1) (by decide) (by decide) (XS.iloadN A257.here hx rfl (hb hby at_129) rfl (XS.iconst A257.here hx rfl (hb hby at_130) (XS.iand A257.here hx rfl (hb hby at_131) rfl (XS.istore A257.here hx rfl (hb hby at_132) rfl (l' := #[vI p0, vI p1, vI p2, vI p3, vA a178, vA a179, vA a181, vI ((XT.ushr p1 (4 : Int32)) - ((XT.ushr p1 (4 : Int32)) / (3 : Int32)) * (3 : Int32)), vA s8, .val .null, vI (p0 &&& (3 : Int32)), .unset, .unset, .unset]) rfl (XS.iload A257.here hx rfl (hb hby at_134) rfl k)))))) ?_
        by_cases c259 : (p0 &&& (3 : Int32)) = (0 : Int32)
        · refine Run.st (T257.setTop (mkF m 139 #[vI p0, vI p1, vI p2, vI p3, vA a178, vA a179, vA a181, vI ((XT.ushr p1 (4 : Int32)) - ((XT.ushr p1 (4 : Int32)) / (3 : Int32)) * (3 : Int32)), vA s8, .val .null, vI (p0 &&& (3 : Int32)), .unset, .unset, .unset] [])) (fun _ k => XS.ifNo A257.here hx rfl (hb hby at_136) rfl (by rw [if0]; exact (teq c259).2) k) ?_
          obtain ⟨a260, T260, h260, A260, E260, g260, Ex260, D260, st260⟩ := A257.newO hx (tw54 H.1) (tw55 H.1) (tw56 H.1) (g := (mkF m 139 #[vI p0, vI p1, vI p2, vI p3, vA a178, vA a179, vA a181, vI ((XT.ushr p1 (4 : Int32)) - ((XT.ushr p1 (4 : Int32)) / (3 : Int32)) * (3 : Int32)), vA s8, .val .null, vI (p0 &&& (3 : Int32)), .unset, .unset, .unset] [])) rfl (hb hby at_139) (by decide) (by decide)
          refine Run.st (T260.setTop (mkF m 142 #[vI p0, vI p1, vI p2, vI p3, vA a178, vA a179, vA a181, vI ((XT.ushr p1 (4 : Int32)) - ((XT.ushr p1 (4 : Int32)) / (3 : Int32)) * (3 : Int32)), vA s8, .val .null, vI (p0 &&& (3 : Int32)), .unset, .unset, .unset] [(.ref a260)])) st260 ?_
          refine Run.st (T260.setTop (mkF m 143 #[vI p0, vI p1, vI p2, vI p3, vA a178, vA a179, vA a181, vI ((XT.ushr p1 (4 : Int32)) - ((XT.ushr p1 (4 : Int32)) / (3 : Int32)) * (3 : Int32)), vA s8, .val .null, vI (p0 &&& (3 : Int32)), .unset, .unset, .unset] [(.ref a260), (.ref a260)])) (fun _ k => XS.dup A260.here hx rfl (hb hby at_142) rfl rfl k) ?_
          have F262 : Fld Z h260 a260 "com/example/gate_to_handlers/gatetohandlers/HttpEntity" "body" "Ljava/lang/Object;" .null := D260 (Or.inr (tw65 H.1)) (ty := (.object "java/lang/Object")) (by decide)
          have F263 : Fld Z h260 a260 "com/example/gate_to_handlers/gatetohandlers/HttpEntity" "headers" "Lcom/example/gate_to_handlers/gatetohandlers/HttpHeaders;" .null := D260 (Or.inr (tw199 H.1)) (ty := (.object "com/example/gate_to_handlers/gatetohandlers/HttpHeaders")) (by decide)
          obtain ⟨v261, T261, h261, AA261, K261, ⟨L261, Q261⟩, st261⟩ := A260.callI hx (y := (⟨"com/example/gate_to_handlers/gatetohandlers/HttpEntity", "<init>", "()V"⟩ : MethodName)) rfl (tw57 H.1) (tw58 H.1) (tw59 H.1) (by decide) (g := (mkF m 143 #[vI p0, vI p1, vI p2, vI p3, vA a178, vA a179, vA a181, vI ((XT.ushr p1 (4 : Int32)) - ((XT.ushr p1 (4 : Int32)) / (3 : Int32)) * (3 : Int32)), vA s8, .val .null, vI (p0 &&& (3 : Int32)), .unset, .unset, .unset] [(.ref a260), (.ref a260)])) rfl (by rw [hml]; rfl) a260 [] [(.ref a260)] (lenOf pd_0 rfl) rfl (Wd := 1) (Nat.le_refl _) (hb hby at_143) (by decide) (by decide) [a260] (fun _ _ _ q => q.2) (allS (List.mem_of_getElem? (i := 0) rfl) all0) (fun vm0 hZ => payN (ct_he0 H a260 .null .null A260.old Ex260 (A260.nle (List.mem_of_getElem? (i := 0) rfl)) Ex260.lt F262 F263) (tw59 H.1) (tw56 H.1) (by decide) (by decide) hZ)
          obtain ⟨Q261, N261, -⟩ := Q261
          obtain ⟨rfl, Ec261, Ff261⟩ := Q261
          have A261 := AA261 [] all0
          refine Run.st (T261.setTop (mkF m 146 #[vI p0, vI p1, vI p2, vI p3, vA a178, vA a179, vA a181, vI ((XT.ushr p1 (4 : Int32)) - ((XT.ushr p1 (4 : Int32)) / (3 : Int32)) * (3 : Int32)), vA s8, .val .null, vI (p0 &&& (3 : Int32)), .unset, .unset, .unset] [(.ref a260)])) st261 ?_
          refine Run.st (T261.setTop (mkF m 236 #[vI p0, vI p1, vI p2, vI p3, vA a178, vA a179, vA a181, vI ((XT.ushr p1 (4 : Int32)) - ((XT.ushr p1 (4 : Int32)) / (3 : Int32)) * (3 : Int32)), vA s8, .val .null, vI (p0 &&& (3 : Int32)), vA a260, vI 0, .unset] [(.ref a260)])) (fun _ k => XS.astore A261.here hx rfl (hb hby at_146) rfl rfl (l' := #[vI p0, vI p1, vI p2, vI p3, vA a178, vA a179, vA a181, vI ((XT.ushr p1 (4 : Int32)) - ((XT.ushr p1 (4 : Int32)) / (3 : Int32)) * (3 : Int32)), vA s8, .val .null, vI (p0 &&& (3 : Int32)), vA a260, .unset, .unset]) rfl (XS.iconst A261.here hx rfl (hb hby at_148) (XS.istore A261.here hx rfl (hb hby at_149) rfl (l' := #[vI p0, vI p1, vI p2, vI p3, vA a178, vA a179, vA a181, vI ((XT.ushr p1 (4 : Int32)) - ((XT.ushr p1 (4 : Int32)) / (3 : Int32)) * (3 : Int32)), vA s8, .val .null, vI (p0 &&& (3 : Int32)), vA a260, vI 0, .unset]) rfl (XS.goto A261.here hx rfl (pc0 := 151) (pc' := 234) rfl (hb hby at_151) (by decide) (by decide) (XS.aload A261.here hx rfl (hb hby at_234) rfl rfl k))))) ?_
          obtain ⟨v264, T264, h264, AA264, K264, ⟨L264, Q264⟩, st264⟩ := A261.callV hx (y := (⟨"com/example/gate_to_handlers/gatetohandlers/HttpEntity", "hasBody", "()Z"⟩ : MethodName)) (z := (⟨"com/example/gate_to_handlers/gatetohandlers/HttpEntity", "hasBody", "()Z"⟩ : MethodName)) (tw200 H.1) (tw201 H.1) (tw203 H.1) (tw202 H.1) (nfSel (tw203 H.1)) (by decide) Ec261 (g := (mkF m 236 #[vI p0, vI p1, vI p2, vI p3, vA a178, vA a179, vA a181, vI ((XT.ushr p1 (4 : Int32)) - ((XT.ushr p1 (4 : Int32)) / (3 : Int32)) * (3 : Int32)), vA s8, .val .null, vI (p0 &&& (3 : Int32)), vA a260, vI 0, .unset] [(.ref a260)])) rfl (by rw [hml]; rfl) [] [] (lenOf pd_9 rfl) rfl (Wd := 0) (Nat.le_refl _) (hb hby at_236) (by decide) (by decide) [] (fun _ _ _ q => q.2) all0 (fun vm0 hZ => payN (ct_hb_n H a260 A261.old Ff261) (tw204 H.1) (tw56 H.1) (by decide) (by decide) hZ)
          obtain ⟨Q264, N264, -⟩ := Q264
          obtain ⟨rfl, q264⟩ := Q264
          have q264 := q264.symm
          subst q264
          have A264 := AA264 [] all0
          refine Run.st (T264.setTop (mkF m 239 #[vI p0, vI p1, vI p2, vI p3, vA a178, vA a179, vA a181, vI ((XT.ushr p1 (4 : Int32)) - ((XT.ushr p1 (4 : Int32)) / (3 : Int32)) * (3 : Int32)), vA s8, .val .null, vI (p0 &&& (3 : Int32)), vA a260, vI 0, .unset] [.int 0])) st264 ?_
          refine Run.st (T264.setTop (mkF m 252 #[vI p0, vI p1, vI p2, vI p3, vA a178, vA a179, vA a181, vI ((XT.ushr p1 (4 : Int32)) - ((XT.ushr p1 (4 : Int32)) / (3 : Int32)) * (3 : Int32)), vA s8, .val .null, vI (p0 &&& (3 : Int32)), vA a260, vI 0, vI 0] [(.ref a260), .int 0])) (fun _ k => XS.istore A264.here hx rfl (hb hby at_239) rfl (l' := #[vI p0, vI p1, vI p2, vI p3, vA a178, vA a179, vA a181, vI ((XT.ushr p1 (4 : Int32)) - ((XT.ushr p1 (4 : Int32)) / (3 : Int32)) * (3 : Int32)), vA s8, .val .null, vI (p0 &&& (3 : Int32)), vA a260, vI 0, vI 0]) rfl (XS.iload A264.here hx rfl (hb hby at_241) rfl (XS.iload A264.here hx rfl (hb hby at_243) rfl (XS.icmpNo A264.here hx rfl (hb hby at_245) rfl (by decide) (XS.iload A264.here hx rfl (hb hby at_248) rfl (XS.aload A264.here hx rfl (hb hby at_250) rfl rfl k)))))) ?_
          obtain ⟨v265, T265, h265, AA265, K265, ⟨L265, Q265⟩, st265⟩ := A264.callV hx (y := (⟨"com/example/gate_to_handlers/gatetohandlers/HttpEntity", "getBody", "()Ljava/lang/Object;"⟩ : MethodName)) (z := (⟨"com/example/gate_to_handlers/gatetohandlers/HttpEntity", "getBody", "()Ljava/lang/Object;"⟩ : MethodName)) (tw205 H.1) (tw206 H.1) (tw208 H.1) (tw207 H.1) (nfSel (tw208 H.1)) (by decide) Ec261 (g := (mkF m 252 #[vI p0, vI p1, vI p2, vI p3, vA a178, vA a179, vA a181, vI ((XT.ushr p1 (4 : Int32)) - ((XT.ushr p1 (4 : Int32)) / (3 : Int32)) * (3 : Int32)), vA s8, .val .null, vI (p0 &&& (3 : Int32)), vA a260, vI 0, vI 0] [(.ref a260), .int 0])) rfl (by rw [hml]; rfl) [] [(.int (0 : Int32))] (lenOf pd_15 rfl) rfl (Wd := 1) (Nat.le_refl _) (hb hby at_252) (by decide) (by decide) [] (fun _ _ _ q => q.2) all0 (fun vm0 hZ => payN (ct_gb_n H a260 A264.old Ff261) (tw209 H.1) (tw56 H.1) (by decide) (by decide) hZ)
          obtain ⟨Q265, N265, -⟩ := Q265
          obtain ⟨rfl, q265⟩ := Q265
          have q265 := q265.symm
          subst q265
          have A265 := AA265 [] all0
          refine Run.st (T265.setTop (mkF m 255 #[vI p0, vI p1, vI p2, vI p3, vA a178, vA a179, vA a181, vI ((XT.ushr p1 (4 : Int32)) - ((XT.ushr p1 (4 : Int32)) / (3 : Int32)) * (3 : Int32)), vA s8, .val .null, vI (p0 &&& (3 : Int32)), vA a260, vI 0, vI 0] [.null, .int 0])) st265 ?_
          refine Run.st (T265.setTop (mkF m 271 #[vI p0, vI p1, vI p2, vI p3, vA a178, vA a179, vA a181, vI ((XT.ushr p1 (4 : Int32)) - ((XT.ushr p1 (4 : Int32)) / (3 : Int32)) * (3 : Int32)), vA s8, .val .null, vI (p0 &&& (3 : Int32)), vA a260, vI 0, vI 0] [.int 1])) (fun _ k => XS.ifnullYes A265.here hx rfl (pc0 := 255) (pc' := 262) rfl (hb hby at_255) rfl (by decide) (by decide) (XS.iconst A265.here hx rfl (hb hby at_262) (XS.icmpNo A265.here hx rfl (hb hby at_263) rfl (by decide) (XS.iconst A265.here hx rfl (hb hby at_266) (XS.goto A265.here hx rfl (pc0 := 267) (pc' := 271) rfl (hb hby at_267) (by decide) (by decide) k))))) ?_
          exact A265.leaveW hlk hh0 (some (.int (1 : Int32))) (fun q => by rw [hrt] at q; cases q) (by decide) (by decide) rfl (fun X hr => retN X hx (t := .boolean) hrt (by simp) (hb hby at_271) hr)
        · refine Run.st (T257.setTop (mkF m 157 #[vI p0, vI p1, vI p2, vI p3, vA a178, vA a179, vA a181, vI ((XT.ushr p1 (4 : Int32)) - ((XT.ushr p1 (4 : Int32)) / (3 : Int32)) * (3 : Int32)), vA s8, .val .null, vI (p0 &&& (3 : Int32)), .unset, .unset, .unset] [.int 1, .int (p0 &&& (3 : Int32))])) (fun _ k => XS.ifYes A257.here hx rfl (pc0 := 136) (pc' := 154) rfl (hb hby at_136) rfl (by rw [if0]; exact (feq c259).2) (by decide) (by decide) (XS.iload A257.here hx rfl (hb hby at_154) rfl (XS.iconst A257.here hx rfl (hb hby at_156) k))) ?_
          by_cases c266 : (p0 &&& (3 : Int32)) = (1 : Int32)
          · refine Run.st (T257.setTop (mkF m 160 #[vI p0, vI p1, vI p2, vI p3, vA a178, vA a179, vA a181, vI ((XT.ushr p1 (4 : Int32)) - ((XT.ushr p1 (4 : Int32)) / (3 : Int32)) * (3 : Int32)), vA s8, .val .null, vI (p0 &&& (3 : Int32)), .unset, .unset, .unset] [])) (fun _ k => XS.icmpNo A257.here hx rfl (hb hby at_157) rfl (teq c266).2 k) ?_
            obtain ⟨a267, T267, h267, A267, E267, g267, Ex267, D267, st267⟩ := A257.newO hx (tw54 H.1) (tw55 H.1) (tw56 H.1) (g := (mkF m 160 #[vI p0, vI p1, vI p2, vI p3, vA a178, vA a179, vA a181, vI ((XT.ushr p1 (4 : Int32)) - ((XT.ushr p1 (4 : Int32)) / (3 : Int32)) * (3 : Int32)), vA s8, .val .null, vI (p0 &&& (3 : Int32)), .unset, .unset, .unset] [])) rfl (hb hby at_160) (by decide) (by decide)
            refine Run.st (T267.setTop (mkF m 163 #[vI p0, vI p1, vI p2, vI p3, vA a178, vA a179, vA a181, vI ((XT.ushr p1 (4 : Int32)) - ((XT.ushr p1 (4 : Int32)) / (3 : Int32)) * (3 : Int32)), vA s8, .val .null, vI (p0 &&& (3 : Int32)), .unset, .unset, .unset] [(.ref a267)])) st267 ?_
            refine Run.st (T267.setTop (mkF m 166 #[vI p0, vI p1, vI p2, vI p3, vA a178, vA a179, vA a181, vI ((XT.ushr p1 (4 : Int32)) - ((XT.ushr p1 (4 : Int32)) / (3 : Int32)) * (3 : Int32)), vA s8, .val .null, vI (p0 &&& (3 : Int32)), .unset, .unset, .unset] [(.ref s8), (.ref a267), (.ref a267)])) (fun _ k => XS.dup A267.here hx rfl (hb hby at_163) rfl rfl (XS.aload A267.here hx rfl (hb hby at_164) rfl rfl k)) ?_
            have F269 : Fld Z h267 a267 "com/example/gate_to_handlers/gatetohandlers/HttpEntity" "body" "Ljava/lang/Object;" .null := D267 (Or.inr (tw65 H.1)) (ty := (.object "java/lang/Object")) (by decide)
            have F270 : Fld Z h267 a267 "com/example/gate_to_handlers/gatetohandlers/HttpEntity" "headers" "Lcom/example/gate_to_handlers/gatetohandlers/HttpHeaders;" .null := D267 (Or.inr (tw199 H.1)) (ty := (.object "com/example/gate_to_handlers/gatetohandlers/HttpHeaders")) (by decide)
            obtain ⟨v268, T268, h268, AA268, K268, ⟨L268, Q268⟩, st268⟩ := A267.callI hx (y := (⟨"com/example/gate_to_handlers/gatetohandlers/HttpEntity", "<init>", "(Ljava/lang/Object;)V"⟩ : MethodName)) rfl (tw214 H.1) (tw215 H.1) (tw216 H.1) (by decide) (g := (mkF m 166 #[vI p0, vI p1, vI p2, vI p3, vA a178, vA a179, vA a181, vI ((XT.ushr p1 (4 : Int32)) - ((XT.ushr p1 (4 : Int32)) / (3 : Int32)) * (3 : Int32)), vA s8, .val .null, vI (p0 &&& (3 : Int32)), .unset, .unset, .unset] [(.ref s8), (.ref a267), (.ref a267)])) rfl (by rw [hml]; rfl) a267 [(.ref s8)] [(.ref a267)] (lenOf pd_16 rfl) rfl (Wd := 1) (Nat.le_refl _) (hb hby at_166) (by decide) (by decide) [a267] (fun _ _ _ q => q.2) (allS (List.mem_of_getElem? (i := 0) rfl) all0) (fun vm0 hZ => payN (ct_heo H a267 .null .null (.ref s8) A267.old Ex267 (A267.nle (List.mem_of_getElem? (i := 0) rfl)) Ex267.lt F269 F270 rfl) (tw216 H.1) (tw56 H.1) (by decide) (by decide) hZ)
            obtain ⟨Q268, N268, -⟩ := Q268
            obtain ⟨rfl, Ec268, Ff268⟩ := Q268
            have A268 := AA268 [] all0
            refine Run.st (T268.setTop (mkF m 169 #[vI p0, vI p1, vI p2, vI p3, vA a178, vA a179, vA a181, vI ((XT.ushr p1 (4 : Int32)) - ((XT.ushr p1 (4 : Int32)) / (3 : Int32)) * (3 : Int32)), vA s8, .val .null, vI (p0 &&& (3 : Int32)), .unset, .unset, .unset] [(.ref a267)])) st268 ?_
            refine Run.st (T268.setTop (mkF m 236 #[vI p0, vI p1, vI p2, vI p3, vA a178, vA a179, vA a181, vI ((XT.ushr p1 (4 : Int32)) - ((XT.ushr p1 (4 : Int32)) / (3 : Int32)) * (3 : Int32)), vA s8, .val .null, vI (p0 &&& (3 : Int32)), vA a267, vI 1, .unset] [(.ref a267)])) (fun _ k => XS.astore A268.here hx rfl (hb hby at_169) rfl rfl (l' := #[vI p0, vI p1, vI p2, vI p3, vA a178, vA a179, vA a181, vI ((XT.ushr p1 (4 : Int32)) - ((XT.ushr p1 (4 : Int32)) / (3 : Int32)) * (3 : Int32)), vA s8, .val .null, vI (p0 &&& (3 : Int32)), vA a267, .unset, .unset]) rfl (XS.aload A268.here hx rfl (hb hby at_171) rfl rfl (XS.ifnullNo A268.here hx rfl (hb hby at_173) rfl (XS.iconst A268.here hx rfl (hb hby at_176) (XS.goto A268.here hx rfl (pc0 := 177) (pc' := 181) rfl (hb hby at_177) (by decide) (by decide) (XS.istore A268.here hx rfl (hb hby at_181) rfl (l' := #[vI p0, vI p1, vI p2, vI p3, vA a178, vA a179, vA a181, vI ((XT.ushr p1 (4 : Int32)) - ((XT.ushr p1 (4 : Int32)) / (3 : Int32)) * (3 : Int32)), vA s8, .val .null, vI (p0 &&& (3 : Int32)), vA a267, vI 1, .unset]) rfl (XS.goto A268.here hx rfl (pc0 := 183) (pc' := 234) rfl (hb hby at_183) (by decide) (by decide) (XS.aload A268.here hx rfl (hb hby at_234) rfl rfl k)))))))) ?_
            obtain ⟨v271, T271, h271, AA271, K271, ⟨L271, Q271⟩, st271⟩ := A268.callV hx (y := (⟨"com/example/gate_to_handlers/gatetohandlers/HttpEntity", "hasBody", "()Z"⟩ : MethodName)) (z := (⟨"com/example/gate_to_handlers/gatetohandlers/HttpEntity", "hasBody", "()Z"⟩ : MethodName)) (tw200 H.1) (tw201 H.1) (tw203 H.1) (tw202 H.1) (nfSel (tw203 H.1)) (by decide) Ec268 (g := (mkF m 236 #[vI p0, vI p1, vI p2, vI p3, vA a178, vA a179, vA a181, vI ((XT.ushr p1 (4 : Int32)) - ((XT.ushr p1 (4 : Int32)) / (3 : Int32)) * (3 : Int32)), vA s8, .val .null, vI (p0 &&& (3 : Int32)), vA a267, vI 1, .unset] [(.ref a267)])) rfl (by rw [hml]; rfl) [] [] (lenOf pd_9 rfl) rfl (Wd := 0) (Nat.le_refl _) (hb hby at_236) (by decide) (by decide) [] (fun _ _ _ q => q.2) all0 (fun vm0 hZ => payN (ct_hb_a H a267 s8 A268.old Ff268) (tw204 H.1) (tw56 H.1) (by decide) (by decide) hZ)
            obtain ⟨Q271, N271, -⟩ := Q271
            obtain ⟨rfl, q271⟩ := Q271
            have q271 := q271.symm
            subst q271
            have A271 := AA271 [] all0
            refine Run.st (T271.setTop (mkF m 239 #[vI p0, vI p1, vI p2, vI p3, vA a178, vA a179, vA a181, vI ((XT.ushr p1 (4 : Int32)) - ((XT.ushr p1 (4 : Int32)) / (3 : Int32)) * (3 : Int32)), vA s8, .val .null, vI (p0 &&& (3 : Int32)), vA a267, vI 1, .unset] [.int 1])) st271 ?_
            refine Run.st (T271.setTop (mkF m 252 #[vI p0, vI p1, vI p2, vI p3, vA a178, vA a179, vA a181, vI ((XT.ushr p1 (4 : Int32)) - ((XT.ushr p1 (4 : Int32)) / (3 : Int32)) * (3 : Int32)), vA s8, .val .null, vI (p0 &&& (3 : Int32)), vA a267, vI 1, vI 1] [(.ref a267), .int 1])) (fun _ k => XS.istore A271.here hx rfl (hb hby at_239) rfl (l' := #[vI p0, vI p1, vI p2, vI p3, vA a178, vA a179, vA a181, vI ((XT.ushr p1 (4 : Int32)) - ((XT.ushr p1 (4 : Int32)) / (3 : Int32)) * (3 : Int32)), vA s8, .val .null, vI (p0 &&& (3 : Int32)), vA a267, vI 1, vI 1]) rfl (XS.iload A271.here hx rfl (hb hby at_241) rfl (XS.iload A271.here hx rfl (hb hby at_243) rfl (XS.icmpNo A271.here hx rfl (hb hby at_245) rfl (by decide) (XS.iload A271.here hx rfl (hb hby at_248) rfl (XS.aload A271.here hx rfl (hb hby at_250) rfl rfl k)))))) ?_
            obtain ⟨v272, T272, h272, AA272, K272, ⟨L272, Q272⟩, st272⟩ := A271.callV hx (y := (⟨"com/example/gate_to_handlers/gatetohandlers/HttpEntity", "getBody", "()Ljava/lang/Object;"⟩ : MethodName)) (z := (⟨"com/example/gate_to_handlers/gatetohandlers/HttpEntity", "getBody", "()Ljava/lang/Object;"⟩ : MethodName)) (tw205 H.1) (tw206 H.1) (tw208 H.1) (tw207 H.1) (nfSel (tw208 H.1)) (by decide) Ec268 (g := (mkF m 252 #[vI p0, vI p1, vI p2, vI p3, vA a178, vA a179, vA a181, vI ((XT.ushr p1 (4 : Int32)) - ((XT.ushr p1 (4 : Int32)) / (3 : Int32)) * (3 : Int32)), vA s8, .val .null, vI (p0 &&& (3 : Int32)), vA a267, vI 1, vI 1] [(.ref a267), .int 1])) rfl (by rw [hml]; rfl) [] [(.int (1 : Int32))] (lenOf pd_15 rfl) rfl (Wd := 1) (Nat.le_refl _) (hb hby at_252) (by decide) (by decide) [] (fun _ _ _ q => q.2) all0 (fun vm0 hZ => payN (ct_gb_a H a267 s8 A271.old Ff268) (tw209 H.1) (tw56 H.1) (by decide) (by decide) hZ)
            obtain ⟨Q272, N272, -⟩ := Q272
            obtain ⟨rfl, q272⟩ := Q272
            have q272 := q272.symm
            subst q272
            have A272 := AA272 [] all0
            refine Run.st (T272.setTop (mkF m 255 #[vI p0, vI p1, vI p2, vI p3, vA a178, vA a179, vA a181, vI ((XT.ushr p1 (4 : Int32)) - ((XT.ushr p1 (4 : Int32)) / (3 : Int32)) * (3 : Int32)), vA s8, .val .null, vI (p0 &&& (3 : Int32)), vA a267, vI 1, vI 1] [(.ref s8), .int 1])) st272 ?_
            refine Run.st (T272.setTop (mkF m 271 #[vI p0, vI p1, vI p2, vI p3, vA a178, vA a179, vA a181, vI ((XT.ushr p1 (4 : Int32)) - ((XT.ushr p1 (4 : Int32)) / (3 : Int32)) * (3 : Int32)), vA s8, .val .null, vI (p0 &&& (3 : Int32)), vA a267, vI 1, vI 1] [.int 1])) (fun _ k => XS.ifnullNo A272.here hx rfl (hb hby at_255) rfl (XS.iconst A272.here hx rfl (hb hby at_258) (XS.goto A272.here hx rfl (pc0 := 259) (pc' := 263) rfl (hb hby at_259) (by decide) (by decide) (XS.icmpNo A272.here hx rfl (hb hby at_263) rfl (by decide) (XS.iconst A272.here hx rfl (hb hby at_266) (XS.goto A272.here hx rfl (pc0 := 267) (pc' := 271) rfl (hb hby at_267) (by decide) (by decide) k)))))) ?_
            exact A272.leaveW hlk hh0 (some (.int (1 : Int32))) (fun q => by rw [hrt] at q; cases q) (by decide) (by decide) rfl (fun X hr => retN X hx (t := .boolean) hrt (by simp) (hb hby at_271) hr)
          · refine Run.st (T257.setTop (mkF m 189 #[vI p0, vI p1, vI p2, vI p3, vA a178, vA a179, vA a181, vI ((XT.ushr p1 (4 : Int32)) - ((XT.ushr p1 (4 : Int32)) / (3 : Int32)) * (3 : Int32)), vA s8, .val .null, vI (p0 &&& (3 : Int32)), .unset, .unset, .unset] [.int 2, .int (p0 &&& (3 : Int32))])) (fun _ k => XS.icmpYes A257.here hx rfl (pc0 := 157) (pc' := 186) rfl (hb hby at_157) rfl (feq c266).2 (by decide) (by decide) (XS.iload A257.here hx rfl (hb hby at_186) rfl (XS.iconst A257.here hx rfl (hb hby at_188) k))) ?_
            by_cases c273 : (p0 &&& (3 : Int32)) = (2 : Int32)
            · refine Run.st (T257.setTop (mkF m 192 #[vI p0, vI p1, vI p2, vI p3, vA a178, vA a179, vA a181, vI ((XT.ushr p1 (4 : Int32)) - ((XT.ushr p1 (4 : Int32)) / (3 : Int32)) * (3 : Int32)), vA s8, .val .null, vI (p0 &&& (3 : Int32)), .unset, .unset, .unset] [])) (fun _ k => XS.icmpNo A257.here hx rfl (hb hby at_189) rfl (teq c273).2 k) ?_
              obtain ⟨a274, T274, h274, A274, E274, g274, Ex274, D274, st274⟩ := A257.newO hx (tw54 H.1) (tw55 H.1) (tw56 H.1) (g := (mkF m 192 #[vI p0, vI p1, vI p2, vI p3, vA a178, vA a179, vA a181, vI ((XT.ushr p1 (4 : Int32)) - ((XT.ushr p1 (4 : Int32)) / (3 : Int32)) * (3 : Int32)), vA s8, .val .null, vI (p0 &&& (3 : Int32)), .unset, .unset, .unset] [])) rfl (hb hby at_192) (by decide) (by decide)
              refine Run.st (T274.setTop (mkF m 195 #[vI p0, vI p1, vI p2, vI p3, vA a178, vA a179, vA a181, vI ((XT.ushr p1 (4 : Int32)) - ((XT.ushr p1 (4 : Int32)) / (3 : Int32)) * (3 : Int32)), vA s8, .val .null, vI (p0 &&& (3 : Int32)), .unset, .unset, .unset] [(.ref a274)])) st274 ?_
              refine Run.st (T274.setTop (mkF m 200 #[vI p0, vI p1, vI p2, vI p3, vA a178, vA a179, vA a181, vI ((XT.ushr p1 (4 : Int32)) - ((XT.ushr p1 (4 : Int32)) / (3 : Int32)) * (3 : Int32)), vA s8, .val .null, vI (p0 &&& (3 : Int32)), .unset, .unset, .unset] [.null, (.ref s8), (.ref a274), (.ref a274)])) (fun _ k => XS.dup A274.here hx rfl (hb hby at_195) rfl rfl (XS.aload A274.here hx rfl (hb hby at_196) rfl rfl (XS.aload A274.here hx rfl (hb hby at_198) rfl rfl k))) ?_
              have F276 : Fld Z h274 a274 "com/example/gate_to_handlers/gatetohandlers/HttpEntity" "body" "Ljava/lang/Object;" .null := D274 (Or.inr (tw65 H.1)) (ty := (.object "java/lang/Object")) (by decide)
              have F277 : Fld Z h274 a274 "com/example/gate_to_handlers/gatetohandlers/HttpEntity" "headers" "Lcom/example/gate_to_handlers/gatetohandlers/HttpHeaders;" .null := D274 (Or.inr (tw199 H.1)) (ty := (.object "com/example/gate_to_handlers/gatetohandlers/HttpHeaders")) (by decide)
              obtain ⟨v275, T275, h275, AA275, K275, ⟨L275, Q275⟩, st275⟩ := A274.callI hx (y := (⟨"com/example/gate_to_handlers/gatetohandlers/HttpEntity", "<init>", "(Ljava/lang/Object;Lcom/example/gate_to_handlers/gatetohandlers/HttpHeaders;)V"⟩ : MethodName)) rfl (tw213 H.1) (tw61 H.1) (tw62 H.1) (by decide) (g := (mkF m 200 #[vI p0, vI p1, vI p2, vI p3, vA a178, vA a179, vA a181, vI ((XT.ushr p1 (4 : Int32)) - ((XT.ushr p1 (4 : Int32)) / (3 : Int32)) * (3 : Int32)), vA s8, .val .null, vI (p0 &&& (3 : Int32)), .unset, .unset, .unset] [.null, (.ref s8), (.ref a274), (.ref a274)])) rfl (by rw [hml]; rfl) a274 [(.ref s8), .null] [(.ref a274)] (lenOf pd_13 rfl) rfl (Wd := 1) (Nat.le_refl _) (hb hby at_200) (by decide) (by decide) [a274] (fun _ _ _ q => q.2) (allS (List.mem_of_getElem? (i := 0) rfl) all0) (fun vm0 hZ => payN (ct_hen H a274 .null .null (.ref s8) A274.old Ex274 (A274.nle (List.mem_of_getElem? (i := 0) rfl)) Ex274.lt F276 F277 rfl) (tw62 H.1) (tw56 H.1) (by decide) (by decide) hZ)
              obtain ⟨Q275, N275, -⟩ := Q275
              obtain ⟨rfl, Ec275, Ff275⟩ := Q275
              have A275 := AA275 [] all0
              refine Run.st (T275.setTop (mkF m 203 #[vI p0, vI p1, vI p2, vI p3, vA a178, vA a179, vA a181, vI ((XT.ushr p1 (4 : Int32)) - ((XT.ushr p1 (4 : Int32)) / (3 : Int32)) * (3 : Int32)), vA s8, .val .null, vI (p0 &&& (3 : Int32)), .unset, .unset, .unset] [(.ref a274)])) st275 ?_
              refine Run.st (T275.setTop (mkF m 236 #[vI p0, vI p1, vI p2, vI p3, vA a178, vA a179, vA a181, vI ((XT.ushr p1 (4 : Int32)) - ((XT.ushr p1 (4 : Int32)) / (3 : Int32)) * (3 : Int32)), vA s8, .val .null, vI (p0 &&& (3 : Int32)), vA a274, vI 1, .unset] [(.ref a274)])) (fun _ k => XS.astore A275.here hx rfl (hb hby at_203) rfl rfl (l' := #[vI p0, vI p1, vI p2, vI p3, vA a178, vA a179, vA a181, vI ((XT.ushr p1 (4 : Int32)) - ((XT.ushr p1 (4 : Int32)) / (3 : Int32)) * (3 : Int32)), vA s8, .val .null, vI (p0 &&& (3 : Int32)), vA a274, .unset, .unset]) rfl (XS.aload A275.here hx rfl (hb hby at_205) rfl rfl (XS.ifnullNo A275.here hx rfl (hb hby at_207) rfl (XS.iconst A275.here hx rfl (hb hby at_210) (XS.goto A275.here hx rfl (pc0 := 211) (pc' := 215) rfl (hb hby at_211) (by decide) (by decide) (XS.istore A275.here hx rfl (hb hby at_215) rfl (l' := #[vI p0, vI p1, vI p2, vI p3, vA a178, vA a179, vA a181, vI ((XT.ushr p1 (4 : Int32)) - ((XT.ushr p1 (4 : Int32)) / (3 : Int32)) * (3 : Int32)), vA s8, .val .null, vI (p0 &&& (3 : Int32)), vA a274, vI 1, .unset]) rfl (XS.goto A275.here hx rfl (pc0 := 217) (pc' := 234) rfl (hb hby at_217) (by decide) (by decide) (XS.aload A275.here hx rfl (hb hby at_234) rfl rfl k)))))))) ?_
              obtain ⟨v278, T278, h278, AA278, K278, ⟨L278, Q278⟩, st278⟩ := A275.callV hx (y := (⟨"com/example/gate_to_handlers/gatetohandlers/HttpEntity", "hasBody", "()Z"⟩ : MethodName)) (z := (⟨"com/example/gate_to_handlers/gatetohandlers/HttpEntity", "hasBody", "()Z"⟩ : MethodName)) (tw200 H.1) (tw201 H.1) (tw203 H.1) (tw202 H.1) (nfSel (tw203 H.1)) (by decide) Ec275 (g := (mkF m 236 #[vI p0, vI p1, vI p2, vI p3, vA a178, vA a179, vA a181, vI ((XT.ushr p1 (4 : Int32)) - ((XT.ushr p1 (4 : Int32)) / (3 : Int32)) * (3 : Int32)), vA s8, .val .null, vI (p0 &&& (3 : Int32)), vA a274, vI 1, .unset] [(.ref a274)])) rfl (by rw [hml]; rfl) [] [] (lenOf pd_9 rfl) rfl (Wd := 0) (Nat.le_refl _) (hb hby at_236) (by decide) (by decide) [] (fun _ _ _ q => q.2) all0 (fun vm0 hZ => payN (ct_hb_a H a274 s8 A275.old Ff275) (tw204 H.1) (tw56 H.1) (by decide) (by decide) hZ)
              obtain ⟨Q278, N278, -⟩ := Q278
              obtain ⟨rfl, q278⟩ := Q278
              have q278 := q278.symm
              subst q278
              have A278 := AA278 [] all0
              refine Run.st (T278.setTop (mkF m 239 #[vI p0, vI p1, vI p2, vI p3, vA a178, vA a179, vA a181, vI ((XT.ushr p1 (4 : Int32)) - ((XT.ushr p1 (4 : Int32)) / (3 : Int32)) * (3 : Int32)), vA s8, .val .null, vI (p0 &&& (3 : Int32)), vA a274, vI 1, .unset] [.int 1])) st278 ?_
              refine Run.st (T278.setTop (mkF m 252 #[vI p0, vI p1, vI p2, vI p3, vA a178, vA a179, vA a181, vI ((XT.ushr p1 (4 : Int32)) - ((XT.ushr p1 (4 : Int32)) / (3 : Int32)) * (3 : Int32)), vA s8, .val .null, vI (p0 &&& (3 : Int32)), vA a274, vI 1, vI 1] [(.ref a274), .int 1])) (fun _ k => XS.istore A278.here hx rfl (hb hby at_239) rfl (l' := #[vI p0, vI p1, vI p2, vI p3, vA a178, vA a179, vA a181, vI ((XT.ushr p1 (4 : Int32)) - ((XT.ushr p1 (4 : Int32)) / (3 : Int32)) * (3 : Int32)), vA s8, .val .null, vI (p0 &&& (3 : Int32)), vA a274, vI 1, vI 1]) rfl (XS.iload A278.here hx rfl (hb hby at_241) rfl (XS.iload A278.here hx rfl (hb hby at_243) rfl (XS.icmpNo A278.here hx rfl (hb hby at_245) rfl (by decide) (XS.iload A278.here hx rfl (hb hby at_248) rfl (XS.aload A278.here hx rfl (hb hby at_250) rfl rfl k)))))) ?_
              obtain ⟨v279, T279, h279, AA279, K279, ⟨L279, Q279⟩, st279⟩ := A278.callV hx (y := (⟨"com/example/gate_to_handlers/gatetohandlers/HttpEntity", "getBody", "()Ljava/lang/Object;"⟩ : MethodName)) (z := (⟨"com/example/gate_to_handlers/gatetohandlers/HttpEntity", "getBody", "()Ljava/lang/Object;"⟩ : MethodName)) (tw205 H.1) (tw206 H.1) (tw208 H.1) (tw207 H.1) (nfSel (tw208 H.1)) (by decide) Ec275 (g := (mkF m 252 #[vI p0, vI p1, vI p2, vI p3, vA a178, vA a179, vA a181, vI ((XT.ushr p1 (4 : Int32)) - ((XT.ushr p1 (4 : Int32)) / (3 : Int32)) * (3 : Int32)), vA s8, .val .null, vI (p0 &&& (3 : Int32)), vA a274, vI 1, vI 1] [(.ref a274), .int 1])) rfl (by rw [hml]; rfl) [] [(.int (1 : Int32))] (lenOf pd_15 rfl) rfl (Wd := 1) (Nat.le_refl _) (hb hby at_252) (by decide) (by decide) [] (fun _ _ _ q => q.2) all0 (fun vm0 hZ => payN (ct_gb_a H a274 s8 A278.old Ff275) (tw209 H.1) (tw56 H.1) (by decide) (by decide) hZ)
              obtain ⟨Q279, N279, -⟩ := Q279
              obtain ⟨rfl, q279⟩ := Q279
              have q279 := q279.symm
              subst q279
              have A279 := AA279 [] all0
              refine Run.st (T279.setTop (mkF m 255 #[vI p0, vI p1, vI p2, vI p3, vA a178, vA a179, vA a181, vI ((XT.ushr p1 (4 : Int32)) - ((XT.ushr p1 (4 : Int32)) / (3 : Int32)) * (3 : Int32)), vA s8, .val .null, vI (p0 &&& (3 : Int32)), vA a274, vI 1, vI 1] [(.ref s8), .int 1])) st279 ?_
              refine Run.st (T279.setTop (mkF m 271 #[vI p0, vI p1, vI p2, vI p3, vA a178, vA a179, vA a181, vI ((XT.ushr p1 (4 : Int32)) - ((XT.ushr p1 (4 : Int32)) / (3 : Int32)) * (3 : Int32)), vA s8, .val .null, vI (p0 &&& (3 : Int32)), vA a274, vI 1, vI 1] [.int 1])) (fun _ k => XS.ifnullNo A279.here hx rfl (hb hby at_255) rfl (XS.iconst A279.here hx rfl (hb hby at_258) (XS.goto A279.here hx rfl (pc0 := 259) (pc' := 263) rfl (hb hby at_259) (by decide) (by decide) (XS.icmpNo A279.here hx rfl (hb hby at_263) rfl (by decide) (XS.iconst A279.here hx rfl (hb hby at_266) (XS.goto A279.here hx rfl (pc0 := 267) (pc' := 271) rfl (hb hby at_267) (by decide) (by decide) k)))))) ?_
              exact A279.leaveW hlk hh0 (some (.int (1 : Int32))) (fun q => by rw [hrt] at q; cases q) (by decide) (by decide) rfl (fun X hr => retN X hx (t := .boolean) hrt (by simp) (hb hby at_271) hr)
            · refine Run.st (T257.setTop (mkF m 220 #[vI p0, vI p1, vI p2, vI p3, vA a178, vA a179, vA a181, vI ((XT.ushr p1 (4 : Int32)) - ((XT.ushr p1 (4 : Int32)) / (3 : Int32)) * (3 : Int32)), vA s8, .val .null, vI (p0 &&& (3 : Int32)), .unset, .unset, .unset] [])) (fun _ k => XS.icmpYes A257.here hx rfl (pc0 := 189) (pc' := 220) rfl (hb hby at_189) rfl (feq c273).2 (by decide) (by decide) k) ?_
              obtain ⟨a280, T280, h280, A280, E280, g280, Ex280, D280, st280⟩ := A257.newO hx (tw54 H.1) (tw55 H.1) (tw56 H.1) (g := (mkF m 220 #[vI p0, vI p1, vI p2, vI p3, vA a178, vA a179, vA a181, vI ((XT.ushr p1 (4 : Int32)) - ((XT.ushr p1 (4 : Int32)) / (3 : Int32)) * (3 : Int32)), vA s8, .val .null, vI (p0 &&& (3 : Int32)), .unset, .unset, .unset] [])) rfl (hb hby at_220) (by decide) (by decide)
              refine Run.st (T280.setTop (mkF m 223 #[vI p0, vI p1, vI p2, vI p3, vA a178, vA a179, vA a181, vI ((XT.ushr p1 (4 : Int32)) - ((XT.ushr p1 (4 : Int32)) / (3 : Int32)) * (3 : Int32)), vA s8, .val .null, vI (p0 &&& (3 : Int32)), .unset, .unset, .unset] [(.ref a280)])) st280 ?_
              refine Run.st (T280.setTop (mkF m 226 #[vI p0, vI p1, vI p2, vI p3, vA a178, vA a179, vA a181, vI ((XT.ushr p1 (4 : Int32)) - ((XT.ushr p1 (4 : Int32)) / (3 : Int32)) * (3 : Int32)), vA s8, .val .null, vI (p0 &&& (3 : Int32)), .unset, .unset, .unset] [.null, (.ref a280), (.ref a280)])) (fun _ k => XS.dup A280.here hx rfl (hb hby at_223) rfl rfl (XS.aload A280.here hx rfl (hb hby at_224) rfl rfl k)) ?_
              have F282 : Fld Z h280 a280 "com/example/gate_to_handlers/gatetohandlers/HttpEntity" "body" "Ljava/lang/Object;" .null := D280 (Or.inr (tw65 H.1)) (ty := (.object "java/lang/Object")) (by decide)
              have F283 : Fld Z h280 a280 "com/example/gate_to_handlers/gatetohandlers/HttpEntity" "headers" "Lcom/example/gate_to_handlers/gatetohandlers/HttpHeaders;" .null := D280 (Or.inr (tw199 H.1)) (ty := (.object "com/example/gate_to_handlers/gatetohandlers/HttpHeaders")) (by decide)
              obtain ⟨v281, T281, h281, AA281, K281, ⟨L281, Q281⟩, st281⟩ := A280.callI hx (y := (⟨"com/example/gate_to_handlers/gatetohandlers/HttpEntity", "<init>", "(Lcom/example/gate_to_handlers/gatetohandlers/HttpHeaders;)V"⟩ : MethodName)) rfl (tw210 H.1) (tw211 H.1) (tw212 H.1) (by decide) (g := (mkF m 226 #[vI p0, vI p1, vI p2, vI p3, vA a178, vA a179, vA a181, vI ((XT.ushr p1 (4 : Int32)) - ((XT.ushr p1 (4 : Int32)) / (3 : Int32)) * (3 : Int32)), vA s8, .val .null, vI (p0 &&& (3 : Int32)), .unset, .unset, .unset] [.null, (.ref a280), (.ref a280)])) rfl (by rw [hml]; rfl) a280 [.null] [(.ref a280)] (lenOf pd_17 rfl) rfl (Wd := 1) (Nat.le_refl _) (hb hby at_226) (by decide) (by decide) [a280] (fun _ _ _ q => q.2) (allS (List.mem_of_getElem? (i := 0) rfl) all0) (fun vm0 hZ => payN (ct_hehn H a280 .null .null A280.old Ex280 (A280.nle (List.mem_of_getElem? (i := 0) rfl)) Ex280.lt F282 F283) (tw212 H.1) (tw56 H.1) (by decide) (by decide) hZ)
              obtain ⟨Q281, N281, -⟩ := Q281
              obtain ⟨rfl, Ec281, Ff281⟩ := Q281
              have A281 := AA281 [] all0
              refine Run.st (T281.setTop (mkF m 229 #[vI p0, vI p1, vI p2, vI p3, vA a178, vA a179, vA a181, vI ((XT.ushr p1 (4 : Int32)) - ((XT.ushr p1 (4 : Int32)) / (3 : Int32)) * (3 : Int32)), vA s8, .val .null, vI (p0 &&& (3 : Int32)), .unset, .unset, .unset] [(.ref a280)])) st281 ?_
              refine Run.st (T281.setTop (mkF m 236 #[vI p0, vI p1, vI p2, vI p3, vA a178, vA a179, vA a181, vI ((XT.ushr p1 (4 : Int32)) - ((XT.ushr p1 (4 : Int32)) / (3 : Int32)) * (3 : Int32)), vA s8, .val .null, vI (p0 &&& (3 : Int32)), vA a280, vI 0, .unset] [(.ref a280)])) (fun _ k => XS.astore A281.here hx rfl (hb hby at_229) rfl rfl (l' := #[vI p0, vI p1, vI p2, vI p3, vA a178, vA a179, vA a181, vI ((XT.ushr p1 (4 : Int32)) - ((XT.ushr p1 (4 : Int32)) / (3 : Int32)) * (3 : Int32)), vA s8, .val .null, vI (p0 &&& (3 : Int32)), vA a280, .unset, .unset]) rfl (XS.iconst A281.here hx rfl (hb hby at_231) (XS.istore A281.here hx rfl (hb hby at_232) rfl (l' := #[vI p0, vI p1, vI p2, vI p3, vA a178, vA a179, vA a181, vI ((XT.ushr p1 (4 : Int32)) - ((XT.ushr p1 (4 : Int32)) / (3 : Int32)) * (3 : Int32)), vA s8, .val .null, vI (p0 &&& (3 : Int32)), vA a280, vI 0, .unset]) rfl (XS.aload A281.here hx rfl (hb hby at_234) rfl rfl k)))) ?_
              obtain ⟨v284, T284, h284, AA284, K284, ⟨L284, Q284⟩, st284⟩ := A281.callV hx (y := (⟨"com/example/gate_to_handlers/gatetohandlers/HttpEntity", "hasBody", "()Z"⟩ : MethodName)) (z := (⟨"com/example/gate_to_handlers/gatetohandlers/HttpEntity", "hasBody", "()Z"⟩ : MethodName)) (tw200 H.1) (tw201 H.1) (tw203 H.1) (tw202 H.1) (nfSel (tw203 H.1)) (by decide) Ec281 (g := (mkF m 236 #[vI p0, vI p1, vI p2, vI p3, vA a178, vA a179, vA a181, vI ((XT.ushr p1 (4 : Int32)) - ((XT.ushr p1 (4 : Int32)) / (3 : Int32)) * (3 : Int32)), vA s8, .val .null, vI (p0 &&& (3 : Int32)), vA a280, vI 0, .unset] [(.ref a280)])) rfl (by rw [hml]; rfl) [] [] (lenOf pd_9 rfl) rfl (Wd := 0) (Nat.le_refl _) (hb hby at_236) (by decide) (by decide) [] (fun _ _ _ q => q.2) all0 (fun vm0 hZ => payN (ct_hb_n H a280 A281.old Ff281) (tw204 H.1) (tw56 H.1) (by decide) (by decide) hZ)
              obtain ⟨Q284, N284, -⟩ := Q284
              obtain ⟨rfl, q284⟩ := Q284
              have q284 := q284.symm
              subst q284
              have A284 := AA284 [] all0
              refine Run.st (T284.setTop (mkF m 239 #[vI p0, vI p1, vI p2, vI p3, vA a178, vA a179, vA a181, vI ((XT.ushr p1 (4 : Int32)) - ((XT.ushr p1 (4 : Int32)) / (3 : Int32)) * (3 : Int32)), vA s8, .val .null, vI (p0 &&& (3 : Int32)), vA a280, vI 0, .unset] [.int 0])) st284 ?_
              refine Run.st (T284.setTop (mkF m 252 #[vI p0, vI p1, vI p2, vI p3, vA a178, vA a179, vA a181, vI ((XT.ushr p1 (4 : Int32)) - ((XT.ushr p1 (4 : Int32)) / (3 : Int32)) * (3 : Int32)), vA s8, .val .null, vI (p0 &&& (3 : Int32)), vA a280, vI 0, vI 0] [(.ref a280), .int 0])) (fun _ k => XS.istore A284.here hx rfl (hb hby at_239) rfl (l' := #[vI p0, vI p1, vI p2, vI p3, vA a178, vA a179, vA a181, vI ((XT.ushr p1 (4 : Int32)) - ((XT.ushr p1 (4 : Int32)) / (3 : Int32)) * (3 : Int32)), vA s8, .val .null, vI (p0 &&& (3 : Int32)), vA a280, vI 0, vI 0]) rfl (XS.iload A284.here hx rfl (hb hby at_241) rfl (XS.iload A284.here hx rfl (hb hby at_243) rfl (XS.icmpNo A284.here hx rfl (hb hby at_245) rfl (by decide) (XS.iload A284.here hx rfl (hb hby at_248) rfl (XS.aload A284.here hx rfl (hb hby at_250) rfl rfl k)))))) ?_
              obtain ⟨v285, T285, h285, AA285, K285, ⟨L285, Q285⟩, st285⟩ := A284.callV hx (y := (⟨"com/example/gate_to_handlers/gatetohandlers/HttpEntity", "getBody", "()Ljava/lang/Object;"⟩ : MethodName)) (z := (⟨"com/example/gate_to_handlers/gatetohandlers/HttpEntity", "getBody", "()Ljava/lang/Object;"⟩ : MethodName)) (tw205 H.1) (tw206 H.1) (tw208 H.1) (tw207 H.1) (nfSel (tw208 H.1)) (by decide) Ec281 (g := (mkF m 252 #[vI p0, vI p1, vI p2, vI p3, vA a178, vA a179, vA a181, vI ((XT.ushr p1 (4 : Int32)) - ((XT.ushr p1 (4 : Int32)) / (3 : Int32)) * (3 : Int32)), vA s8, .val .null, vI (p0 &&& (3 : Int32)), vA a280, vI 0, vI 0] [(.ref a280), .int 0])) rfl (by rw [hml]; rfl) [] [(.int (0 : Int32))] (lenOf pd_15 rfl) rfl (Wd := 1) (Nat.le_refl _) (hb hby at_252) (by decide) (by decide) [] (fun _ _ _ q => q.2) all0 (fun vm0 hZ => payN (ct_gb_n H a280 A284.old Ff281) (tw209 H.1) (tw56 H.1) (by decide) (by decide) hZ)
              obtain ⟨Q285, N285, -⟩ := Q285
              obtain ⟨rfl, q285⟩ := Q285
              have q285 := q285.symm
              subst q285
              have A285 := AA285 [] all0
              refine Run.st (T285.setTop (mkF m 255 #[vI p0, vI p1, vI p2, vI p3, vA a178, vA a179, vA a181, vI ((XT.ushr p1 (4 : Int32)) - ((XT.ushr p1 (4 : Int32)) / (3 : Int32)) * (3 : Int32)), vA s8, .val .null, vI (p0 &&& (3 : Int32)), vA a280, vI 0, vI 0] [.null, .int 0])) st285 ?_
              refine Run.st (T285.setTop (mkF m 271 #[vI p0, vI p1, vI p2, vI p3, vA a178, vA a179, vA a181, vI ((XT.ushr p1 (4 : Int32)) - ((XT.ushr p1 (4 : Int32)) / (3 : Int32)) * (3 : Int32)), vA s8, .val .null, vI (p0 &&& (3 : Int32)), vA a280, vI 0, vI 0] [.int 1])) (fun _ k => XS.ifnullYes A285.here hx rfl (pc0 := 255) (pc' := 262) rfl (hb hby at_255) rfl (by decide) (by decide) (XS.iconst A285.here hx rfl (hb hby at_262) (XS.icmpNo A285.here hx rfl (hb hby at_263) rfl (by decide) (XS.iconst A285.here hx rfl (hb hby at_266) (XS.goto A285.here hx rfl (pc0 := 267) (pc' := 271) rfl (hb hby at_267) (by decide) (by decide) k))))) ?_
              exact A285.leaveW hlk hh0 (some (.int (1 : Int32))) (fun q => by rw [hrt] at q; cases q) (by decide) (by decide) rfl (fun X hr => retN X hx (t := .boolean) hrt (by simp) (hb hby at_271) hr)
      · refine Run.st (T257.setTop (mkF m 120 #[vI p0, vI p1, vI p2, vI p3, vA a178, vA a179, vA a181, vI ((XT.ushr p1 (4 : Int32)) - ((XT.ushr p1 (4 : Int32)) / (3 : Int32)) * (3 : Int32)), vA s8, .val .null, .unset, .unset, .unset, .unset] [])) (fun _ k => XS.ifNo A257.here hx rfl (hb hby at_117) rfl (by rw [if0]; exact (feq c258).1) k) ?_
        obtain ⟨a286, T286, h286, A286, E286, g286, Ex286, D286, st286⟩ := A257.newO hx (tw22 H.1) (tw23 H.1) (tw24 H.1) (g := (mkF m 120 #[vI p0, vI p1, vI p2, vI p3, vA a178, vA a179, vA a181, vI ((XT.ushr p1 (4 : Int32)) - ((XT.ushr p1 (4 : Int32)) / (3 : Int32)) * (3 : Int32)), vA s8, .val .null, .unset, .unset, .unset, .unset] [])) rfl (hb hby at_120) (by decide) (by decide)
        refine Run.st (T286.setTop (mkF m 123 #[vI p0, vI p1, vI p2, vI p3, vA a178, vA a179, vA a181, vI ((XT.ushr p1 (4 : Int32)) - ((XT.ushr p1 (4 : Int32)) / (3 : Int32)) * (3 : Int32)), vA s8, .val .null, .unset, .unset, .unset, .unset] [(.ref a286)])) st286 ?_
        refine Run.st (T286.setTop (mkF m 124 #[vI p0, vI p1, vI p2, vI p3, vA a178, vA a179, vA a181, vI ((XT.ushr p1 (4 : Int32)) - ((XT.ushr p1 (4 : Int32)) / (3 : Int32)) * (3 : Int32)), vA s8, .val .null, .unset, .unset, .unset, .unset] [(.ref a286), (.ref a286)])) (fun _ k => XS.dup A286.here hx rfl (hb hby at_123) rfl rfl k) ?_
        have F288 : Fld Z h286 a286 "com/example/gate_to_handlers/gatetohandlers/HttpHeaders" "fields" "Ljava/util/Map;" .null := D286 (Or.inr (tw53 H.1)) (ty := (.object "java/util/Map")) (by decide)
        obtain ⟨v287, T287, h287, AA287, K287, ⟨L287, Q287⟩, st287⟩ := A286.callI hx (y := (⟨"com/example/gate_to_handlers/gatetohandlers/HttpHeaders", "<init>", "()V"⟩ : MethodName)) rfl (tw25 H.1) (tw26 H.1) (tw27 H.1) (by decide) (g := (mkF m 124 #[vI p0, vI p1, vI p2, vI p3, vA a178, vA a179, vA a181, vI ((XT.ushr p1 (4 : Int32)) - ((XT.ushr p1 (4 : Int32)) / (3 : Int32)) * (3 : Int32)), vA s8, .val .null, .unset, .unset, .unset, .unset] [(.ref a286), (.ref a286)])) rfl (by rw [hml]; rfl) a286 [] [(.ref a286)] (lenOf pd_0 rfl) rfl (Wd := 1) (Nat.le_refl _) (hb hby at_124) (by decide) (by decide) [a286] (fun _ _ _ q => q.2) (allS (List.mem_of_getElem? (i := 0) rfl) all0) (fun vm0 hZ => payN (ct_hh0 H a286 .null A286.old Ex286 (A286.nle (List.mem_of_getElem? (i := 0) rfl)) Ex286.lt F288) (tw27 H.1) (tw24 H.1) (by decide) (by decide) hZ)
        obtain ⟨Q287, N287, -⟩ := Q287
        obtain ⟨rfl, Ec287, t287, gt287, Ff287, Tq287⟩ := Q287
        obtain ⟨Te287, Tr287, Ts287, Tm287⟩ := Tq287
        have A287 := AA287 [t287] (allS (Or.inr gt287) all0)
        refine Run.st (T287.setTop (mkF m 127 #[vI p0, vI p1, vI p2, vI p3, vA a178, vA a179, vA a181, vI ((XT.ushr p1 (4 : Int32)) - ((XT.ushr p1 (4 : Int32)) / (3 : Int32)) * (3 : Int32)), vA s8, .val .null, .unset, .unset, .unset, .unset] [(.ref a286)])) st287 ?_
        refine Run.st (T287.setTop (mkF m 136 #[vI p0, vI p1, vI p2, vI p3, vA a178, vA a179, vA a181, vI ((XT.ushr p1 (4 : Int32)) - ((XT.ushr p1 (4 : Int32)) / (3 : Int32)) * (3 : Int32)), vA s8, vA a286, vI (p0 &&& (3 : Int32)), .unset, .unset, .unset] [.int (p0 &&& (3 : Int32))])) (fun _ k => XS.astore A287.here hx rfl (hb hby at_127) rfl rfl (l' := #[vI p0, vI p1, vI p2, vI p3, vA a178, vA a179, vA a181, vI ((XT.ushr p1 (4 : Int32)) - ((XT.ushr p1 (4 : Int32)) / (3 : Int32)) * (3 : Int32)), vA s8, vA a286, .unset, .unset, .unset, .unset]) rfl (XS.iloadN A287.here hx rfl (hb hby at_129) rfl (XS.iconst A287.here hx rfl (hb hby at_130) (XS.iand A287.here hx rfl (hb hby at_131) rfl (XS.istore A287.here hx rfl (hb hby at_132) rfl (l' := #[vI p0, vI p1, vI p2, vI p3, vA a178, vA a179, vA a181, vI ((XT.ushr p1 (4 : Int32)) - ((XT.ushr p1 (4 : Int32)) / (3 : Int32)) * (3 : Int32)), vA s8, vA a286, vI (p0 &&& (3 : Int32)), .unset, .unset, .unset]) rfl (XS.iload A287.here hx rfl (hb hby at_134) rfl k)))))) ?_
        by_cases c289 : (p0 &&& (3 : Int32)) = (0 : Int32)
        · refine Run.st (T287.setTop (mkF m 139 #[vI p0, vI p1, vI p2, vI p3, vA a178, vA a179, vA a181, vI ((XT.ushr p1 (4 : Int32)) - ((XT.ushr p1 (4 : Int32)) / (3 : Int32)) * (3 : Int32)), vA s8, vA a286, vI (p0 &&& (3 : Int32)), .unset, .unset, .unset] [])) (fun _ k => XS.ifNo A287.here hx rfl (hb hby at_136) rfl (by rw [if0]; exact (teq c289).2) k) ?_
          obtain ⟨a290, T290, h290, A290, E290, g290, Ex290, D290, st290⟩ := A287.newO hx (tw54 H.1) (tw55 H.1) (tw56 H.1) (g := (mkF m 139 #[vI p0, vI p1, vI p2, vI p3, vA a178, vA a179, vA a181, vI ((XT.ushr p1 (4 : Int32)) - ((XT.ushr p1 (4 : Int32)) / (3 : Int32)) * (3 : Int32)), vA s8, vA a286, vI (p0 &&& (3 : Int32)), .unset, .unset, .unset] [])) rfl (hb hby at_139) (by decide) (by decide)
          refine Run.st (T290.setTop (mkF m 142 #[vI p0, vI p1, vI p2, vI p3, vA a178, vA a179, vA a181, vI ((XT.ushr p1 (4 : Int32)) - ((XT.ushr p1 (4 : Int32)) / (3 : Int32)) * (3 : Int32)), vA s8, vA a286, vI (p0 &&& (3 : Int32)), .unset, .unset, .unset] [(.ref a290)])) st290 ?_
          refine Run.st (T290.setTop (mkF m 143 #[vI p0, vI p1, vI p2, vI p3, vA a178, vA a179, vA a181, vI ((XT.ushr p1 (4 : Int32)) - ((XT.ushr p1 (4 : Int32)) / (3 : Int32)) * (3 : Int32)), vA s8, vA a286, vI (p0 &&& (3 : Int32)), .unset, .unset, .unset] [(.ref a290), (.ref a290)])) (fun _ k => XS.dup A290.here hx rfl (hb hby at_142) rfl rfl k) ?_
          have F292 : Fld Z h290 a290 "com/example/gate_to_handlers/gatetohandlers/HttpEntity" "body" "Ljava/lang/Object;" .null := D290 (Or.inr (tw65 H.1)) (ty := (.object "java/lang/Object")) (by decide)
          have F293 : Fld Z h290 a290 "com/example/gate_to_handlers/gatetohandlers/HttpEntity" "headers" "Lcom/example/gate_to_handlers/gatetohandlers/HttpHeaders;" .null := D290 (Or.inr (tw199 H.1)) (ty := (.object "com/example/gate_to_handlers/gatetohandlers/HttpHeaders")) (by decide)
          obtain ⟨v291, T291, h291, AA291, K291, ⟨L291, Q291⟩, st291⟩ := A290.callI hx (y := (⟨"com/example/gate_to_handlers/gatetohandlers/HttpEntity", "<init>", "()V"⟩ : MethodName)) rfl (tw57 H.1) (tw58 H.1) (tw59 H.1) (by decide) (g := (mkF m 143 #[vI p0, vI p1, vI p2, vI p3, vA a178, vA a179, vA a181, vI ((XT.ushr p1 (4 : Int32)) - ((XT.ushr p1 (4 : Int32)) / (3 : Int32)) * (3 : Int32)), vA s8, vA a286, vI (p0 &&& (3 : Int32)), .unset, .unset, .unset] [(.ref a290), (.ref a290)])) rfl (by rw [hml]; rfl) a290 [] [(.ref a290)] (lenOf pd_0 rfl) rfl (Wd := 1) (Nat.le_refl _) (hb hby at_143) (by decide) (by decide) [a290] (fun _ _ _ q => q.2) (allS (List.mem_of_getElem? (i := 0) rfl) all0) (fun vm0 hZ => payN (ct_he0 H a290 .null .null A290.old Ex290 (A290.nle (List.mem_of_getElem? (i := 0) rfl)) Ex290.lt F292 F293) (tw59 H.1) (tw56 H.1) (by decide) (by decide) hZ)
          obtain ⟨Q291, N291, -⟩ := Q291
          obtain ⟨rfl, Ec291, Ff291⟩ := Q291
          have A291 := AA291 [] all0
          refine Run.st (T291.setTop (mkF m 146 #[vI p0, vI p1, vI p2, vI p3, vA a178, vA a179, vA a181, vI ((XT.ushr p1 (4 : Int32)) - ((XT.ushr p1 (4 : Int32)) / (3 : Int32)) * (3 : Int32)), vA s8, vA a286, vI (p0 &&& (3 : Int32)), .unset, .unset, .unset] [(.ref a290)])) st291 ?_
          refine Run.st (T291.setTop (mkF m 236 #[vI p0, vI p1, vI p2, vI p3, vA a178, vA a179, vA a181, vI ((XT.ushr p1 (4 : Int32)) - ((XT.ushr p1 (4 : Int32)) / (3 : Int32)) * (3 : Int32)), vA s8, vA a286, vI (p0 &&& (3 : Int32)), vA a290, vI 0, .unset] [(.ref a290)])) (fun _ k => XS.astore A291.here hx rfl (hb hby at_146) rfl rfl (l' := #[vI p0, vI p1, vI p2, vI p3, vA a178, vA a179, vA a181, vI ((XT.ushr p1 (4 : Int32)) - ((XT.ushr p1 (4 : Int32)) / (3 : Int32)) * (3 : Int32)), vA s8, vA a286, vI (p0 &&& (3 : Int32)), vA a290, .unset, .unset]) rfl (XS.iconst A291.here hx rfl (hb hby at_148) (XS.istore A291.here hx rfl (hb hby at_149) rfl (l' := #[vI p0, vI p1, vI p2, vI p3, vA a178, vA a179, vA a181, vI ((XT.ushr p1 (4 : Int32)) - ((XT.ushr p1 (4 : Int32)) / (3 : Int32)) * (3 : Int32)), vA s8, vA a286, vI (p0 &&& (3 : Int32)), vA a290, vI 0, .unset]) rfl (XS.goto A291.here hx rfl (pc0 := 151) (pc' := 234) rfl (hb hby at_151) (by decide) (by decide) (XS.aload A291.here hx rfl (hb hby at_234) rfl rfl k))))) ?_
          obtain ⟨v294, T294, h294, AA294, K294, ⟨L294, Q294⟩, st294⟩ := A291.callV hx (y := (⟨"com/example/gate_to_handlers/gatetohandlers/HttpEntity", "hasBody", "()Z"⟩ : MethodName)) (z := (⟨"com/example/gate_to_handlers/gatetohandlers/HttpEntity", "hasBody", "()Z"⟩ : MethodName)) (tw200 H.1) (tw201 H.1) (tw203 H.1) (tw202 H.1) (nfSel (tw203 H.1)) (by decide) Ec291 (g := (mkF m 236 #[vI p0, vI p1, vI p2, vI p3, vA a178, vA a179, vA a181, vI ((XT.ushr p1 (4 : Int32)) - ((XT.ushr p1 (4 : Int32)) / (3 : Int32)) * (3 : Int32)), vA s8, vA a286, vI (p0 &&& (3 : Int32)), vA a290, vI 0, .unset] [(.ref a290)])) rfl (by rw [hml]; rfl) [] [] (lenOf pd_9 rfl) rfl (Wd := 0) (Nat.le_refl _) (hb hby at_236) (by decide) (by decide) [] (fun _ _ _ q => q.2) all0 (fun vm0 hZ => payN (ct_hb_n H a290 A291.old Ff291) (tw204 H.1) (tw56 H.1) (by decide) (by decide) hZ)
          obtain ⟨Q294, N294, -⟩ := Q294
          obtain ⟨rfl, q294⟩ := Q294
          have q294 := q294.symm
          subst q294
          have A294 := AA294 [] all0
          refine Run.st (T294.setTop (mkF m 239 #[vI p0, vI p1, vI p2, vI p3, vA a178, vA a179, vA a181, vI ((XT.ushr p1 (4 : Int32)) - ((XT.ushr p1 (4 : Int32)) / (3 : Int32)) * (3 : Int32)), vA s8, vA a286, vI (p0 &&& (3 : Int32)), vA a290, vI 0, .unset] [.int 0])) st294 ?_
          refine Run.st (T294.setTop (mkF m 252 #[vI p0, vI p1, vI p2, vI p3, vA a178, vA a179, vA a181, vI ((XT.ushr p1 (4 : Int32)) - ((XT.ushr p1 (4 : Int32)) / (3 : Int32)) * (3 : Int32)), vA s8, vA a286, vI (p0 &&& (3 : Int32)), vA a290, vI 0, vI 0] [(.ref a290), .int 0])) (fun _ k => XS.istore A294.here hx rfl (hb hby at_239) rfl (l' := #[vI p0, vI p1, vI p2, vI p3, vA a178, vA a179, vA a181, vI ((XT.ushr p1 (4 : Int32)) - ((XT.ushr p1 (4 : Int32)) / (3 : Int32)) * (3 : Int32)), vA s8, vA a286, vI (p0 &&& (3 : Int32)), vA a290, vI 0, vI 0]) rfl (XS.iload A294.here hx rfl (hb hby at_241) rfl (XS.iload A294.here hx rfl (hb hby at_243) rfl (XS.icmpNo A294.here hx rfl (hb hby at_245) rfl (by decide) (XS.iload A294.here hx rfl (hb hby at_248) rfl (XS.aload A294.here hx rfl (hb hby at_250) rfl rfl k)))))) ?_
          obtain ⟨v295, T295, h295, AA295, K295, ⟨L295, Q295⟩, st295⟩ := A294.callV hx (y := (⟨"com/example/gate_to_handlers/gatetohandlers/HttpEntity", "getBody", "()Ljava/lang/Object;"⟩ : MethodName)) (z := (⟨"com/example/gate_to_handlers/gatetohandlers/HttpEntity", "getBody", "()Ljava/lang/Object;"⟩ : MethodName)) (tw205 H.1) (tw206 H.1) (tw208 H.1) (tw207 H.1) (nfSel (tw208 H.1)) (by decide) Ec291 (g := (mkF m 252 #[vI p0, vI p1, vI p2, vI p3, vA a178, vA a179, vA a181, vI ((XT.ushr p1 (4 : Int32)) - ((XT.ushr p1 (4 : Int32)) / (3 : Int32)) * (3 : Int32)), vA s8, vA a286, vI (p0 &&& (3 : Int32)), vA a290, vI 0, vI 0] [(.ref a290), .int 0])) rfl (by rw [hml]; rfl) [] [(.int (0 : Int32))] (lenOf pd_15 rfl) rfl (Wd := 1) (Nat.le_refl _) (hb hby at_252) (by decide) (by decide) [] (fun _ _ _ q => q.2) all0 (fun vm0 hZ => payN (ct_gb_n H a290 A294.old Ff291) (tw209 H.1) (tw56 H.1) (by decide) (by decide) hZ)
          obtain ⟨Q295, N295, -⟩ := Q295
          obtain ⟨rfl, q295⟩ := Q295
          have q295 := q295.symm
          subst q295
          have A295 := AA295 [] all0
          refine Run.st (T295.setTop (mkF m 255 #[vI p0, vI p1, vI p2, vI p3, vA a178, vA a179, vA a181, vI ((XT.ushr p1 (4 : Int32)) - ((XT.ushr p1 (4 : Int32)) / (3 : Int32)) * (3 : Int32)), vA s8, vA a286, vI (p0 &&& (3 : Int32)), vA a290, vI 0, vI 0] [.null, .int 0])) st295 ?_
          refine Run.st (T295.setTop (mkF m 271 #[vI p0, vI p1, vI p2, vI p3, vA a178, vA a179, vA a181, vI ((XT.ushr p1 (4 : Int32)) - ((XT.ushr p1 (4 : Int32)) / (3 : Int32)) * (3 : Int32)), vA s8, vA a286, vI (p0 &&& (3 : Int32)), vA a290, vI 0, vI 0] [.int 1])) (fun _ k => XS.ifnullYes A295.here hx rfl (pc0 := 255) (pc' := 262) rfl (hb hby at_255) rfl (by decide) (by decide) (XS.iconst A295.here hx rfl (hb hby at_262) (XS.icmpNo A295.here hx rfl (hb hby at_263) rfl (by decide) (XS.iconst A295.here hx rfl (hb hby at_266) (XS.goto A295.here hx rfl (pc0 := 267) (pc' := 271) rfl (hb hby at_267) (by decide) (by decide) k))))) ?_
          exact A295.leaveW hlk hh0 (some (.int (1 : Int32))) (fun q => by rw [hrt] at q; cases q) (by decide) (by decide) rfl (fun X hr => retN X hx (t := .boolean) hrt (by simp) (hb hby at_271) hr)
        · refine Run.st (T287.setTop (mkF m 157 #[vI p0, vI p1, vI p2, vI p3, vA a178, vA a179, vA a181, vI ((XT.ushr p1 (4 : Int32)) - ((XT.ushr p1 (4 : Int32)) / (3 : Int32)) * (3 : Int32)), vA s8, vA a286, vI (p0 &&& (3 : Int32)), .unset, .unset, .unset] [.int 1, .int (p0 &&& (3 : Int32))])) (fun _ k => XS.ifYes A287.here hx rfl (pc0 := 136) (pc' := 154) rfl (hb hby at_136) rfl (by rw [if0]; exact (feq c289).2) (by decide) (by decide) (XS.iload A287.here hx rfl (hb hby at_154) rfl (XS.iconst A287.here hx rfl (hb hby at_156) k))) ?_
          by_cases c296 : (p0 &&& (3 : Int32)) = (1 : Int32)
          · refine Run.st (T287.setTop (mkF m 160 #[vI p0, vI p1, vI p2, vI p3, vA a178, vA a179, vA a181, vI ((XT.ushr p1 (4 : Int32)) - ((XT.ushr p1 (4 : Int32)) / (3 : Int32)) * (3 : Int32)), vA s8, vA a286, vI (p0 &&& (3 : Int32)), .unset, .unset, .unset] [])) (fun _ k => XS.icmpNo A287.here hx rfl (hb hby at_157) rfl (teq c296).2 k) ?_
            obtain ⟨a297, T297, h297, A297, E297, g297, Ex297, D297, st297⟩ := A287.newO hx (tw54 H.1) (tw55 H.1) (tw56 H.1) (g := (mkF m 160 #[vI p0, vI p1, vI p2, vI p3, vA a178, vA a179, vA a181, vI ((XT.ushr p1 (4 : Int32)) - ((XT.ushr p1 (4 : Int32)) / (3 : Int32)) * (3 : Int32)), vA s8, vA a286, vI (p0 &&& (3 : Int32)), .unset, .unset, .unset] [])) rfl (hb hby at_160) (by decide) (by decide)
            refine Run.st (T297.setTop (mkF m 163 #[vI p0, vI p1, vI p2, vI p3, vA a178, vA a179, vA a181, vI ((XT.ushr p1 (4 : Int32)) - ((XT.ushr p1 (4 : Int32)) / (3 : Int32)) * (3 : Int32)), vA s8, vA a286, vI (p0 &&& (3 : Int32)), .unset, .unset, .unset] [(.ref a297)])) st297 ?_
            refine Run.st (T297.setTop (mkF m 166 #[vI p0, vI p1, vI p2, vI p3, vA a178, vA a179, vA a181, vI ((XT.ushr p1 (4 : Int32)) - ((XT.ushr p1 (4 : Int32)) / (3 : Int32)) * (3 : Int32)), vA s8, vA a286, vI (p0 &&& (3 : Int32)), .unset, .unset, .unset] [(.ref s8), (.ref a297), (.ref a297)])) (fun _ k => XS.dup A297.here hx rfl (hb hby at_163) rfl rfl (XS.aload A297.here hx rfl (hb hby at_164) rfl rfl k)) ?_
            have F299 : Fld Z h297 a297 "com/example/gate_to_handlers/gatetohandlers/HttpEntity" "body" "Ljava/lang/Object;" .null := D297 (Or.inr (tw65 H.1)) (ty := (.object "java/lang/Object")) (by decide)
            have F300 : Fld Z h297 a297 "com/example/gate_to_handlers/gatetohandlers/HttpEntity" "headers" "Lcom/example/gate_to_handlers/gatetohandlers/HttpHeaders;" .null := D297 (Or.inr (tw199 H.1)) (ty := (.object "com/example/gate_to_handlers/gatetohandlers/HttpHeaders")) (by decide)
            obtain ⟨v298, T298, h298, AA298, K298, ⟨L298, Q298⟩, st298⟩ := A297.callI hx (y := (⟨"com/example/gate_to_handlers/gatetohandlers/HttpEntity", "<init>", "(Ljava/lang/Object;)V"⟩ : MethodName)) rfl (tw214 H.1) (tw215 H.1) (tw216 H.1) (by decide) (g := (mkF m 166 #[vI p0, vI p1, vI p2, vI p3, vA a178, vA a179, vA a181, vI ((XT.ushr p1 (4 : Int32)) - ((XT.ushr p1 (4 : Int32)) / (3 : Int32)) * (3 : Int32)), vA s8, vA a286, vI (p0 &&& (3 : Int32)), .unset, .unset, .unset] [(.ref s8), (.ref a297), (.ref a297)])) rfl (by rw [hml]; rfl) a297 [(.ref s8)] [(.ref a297)] (lenOf pd_16 rfl) rfl (Wd := 1) (Nat.le_refl _) (hb hby at_166) (by decide) (by decide) [a297] (fun _ _ _ q => q.2) (allS (List.mem_of_getElem? (i := 0) rfl) all0) (fun vm0 hZ => payN (ct_heo H a297 .null .null (.ref s8) A297.old Ex297 (A297.nle (List.mem_of_getElem? (i := 0) rfl)) Ex297.lt F299 F300 rfl) (tw216 H.1) (tw56 H.1) (by decide) (by decide) hZ)
            obtain ⟨Q298, N298, -⟩ := Q298
            obtain ⟨rfl, Ec298, Ff298⟩ := Q298
            have A298 := AA298 [] all0
            refine Run.st (T298.setTop (mkF m 169 #[vI p0, vI p1, vI p2, vI p3, vA a178, vA a179, vA a181, vI ((XT.ushr p1 (4 : Int32)) - ((XT.ushr p1 (4 : Int32)) / (3 : Int32)) * (3 : Int32)), vA s8, vA a286, vI (p0 &&& (3 : Int32)), .unset, .unset, .unset] [(.ref a297)])) st298 ?_
            refine Run.st (T298.setTop (mkF m 236 #[vI p0, vI p1, vI p2, vI p3, vA a178, vA a179, vA a181, vI ((XT.ushr p1 (4 : Int32)) - ((XT.ushr p1 (4 : Int32)) / (3 : Int32)) * (3 : Int32)), vA s8, vA a286, vI (p0 &&& (3 : Int32)), vA a297, vI 1, .unset] [(.ref a297)])) (fun _ k => XS.astore A298.here hx rfl (hb hby at_169) rfl rfl (l' := #[vI p0, vI p1, vI p2, vI p3, vA a178, vA a179, vA a181, vI ((XT.ushr p1 (4 : Int32)) - ((XT.ushr p1 (4 : Int32)) / (3 : Int32)) * (3 : Int32)), vA s8, vA a286, vI (p0 &&& (3 : Int32)), vA a297, .unset, .unset]) rfl (XS.aload A298.here hx rfl (hb hby at_171) rfl rfl (XS.ifnullNo A298.here hx rfl (hb hby at_173) rfl (XS.iconst A298.here hx rfl (hb hby at_176) (XS.goto A298.here hx rfl (pc0 := 177) (pc' := 181) rfl (hb hby at_177) (by decide) (by decide) (XS.istore A298.here hx rfl (hb hby at_181) rfl (l' := #[vI p0, vI p1, vI p2, vI p3, vA a178, vA a179, vA a181, vI ((XT.ushr p1 (4 : Int32)) - ((XT.ushr p1 (4 : Int32)) / (3 : Int32)) * (3 : Int32)), vA s8, vA a286, vI (p0 &&& (3 : Int32)), vA a297, vI 1, .unset]) rfl (XS.goto A298.here hx rfl (pc0 := 183) (pc' := 234) rfl (hb hby at_183) (by decide) (by decide) (XS.aload A298.here hx rfl (hb hby at_234) rfl rfl k)))))))) ?_
            obtain ⟨v301, T301, h301, AA301, K301, ⟨L301, Q301⟩, st301⟩ := A298.callV hx (y := (⟨"com/example/gate_to_handlers/gatetohandlers/HttpEntity", "hasBody", "()Z"⟩ : MethodName)) (z := (⟨"com/example/gate_to_handlers/gatetohandlers/HttpEntity", "hasBody", "()Z"⟩ : MethodName)) (tw200 H.1) (tw201 H.1) (tw203 H.1) (tw202 H.1) (nfSel (tw203 H.1)) (by decide) Ec298 (g := (mkF m 236 #[vI p0, vI p1, vI p2, vI p3, vA a178, vA a179, vA a181, vI ((XT.ushr p1 (4 : Int32)) - ((XT.ushr p1 (4 : Int32)) / (3 : Int32)) * (3 : Int32)), vA s8, vA a286, vI (p0 &&& (3 : Int32)), vA a297, vI 1, .unset] [(.ref a297)])) rfl (by rw [hml]; rfl) [] [] (lenOf pd_9 rfl) rfl (Wd := 0) (Nat.le_refl _) (hb hby at_236) (by decide) (by decide) [] (fun _ _ _ q => q.2) all0 (fun vm0 hZ => payN (ct_hb_a H a297 s8 A298.old Ff298) (tw204 H.1) (tw56 H.1) (by decide) (by decide) hZ)
            obtain ⟨Q301, N301, -⟩ := Q301
            obtain ⟨rfl, q301⟩ := Q301
            have q301 := q301.symm
            subst q301
            have A301 := AA301 [] all0
            refine Run.st (T301.setTop (mkF m 239 #[vI p0, vI p1, vI p2, vI p3, vA a178, vA a179, vA a181, vI ((XT.ushr p1 (4 : Int32)) - ((XT.ushr p1 (4 : Int32)) / (3 : Int32)) * (3 : Int32)), vA s8, vA a286, vI (p0 &&& (3 : Int32)), vA a297, vI 1, .unset] [.int 1])) st301 ?_
            refine Run.st (T301.setTop (mkF m 252 #[vI p0, vI p1, vI p2, vI p3, vA a178, vA a179, vA a181, vI ((XT.ushr p1 (4 : Int32)) - ((XT.ushr p1 (4 : Int32)) / (3 : Int32)) * (3 : Int32)), vA s8, vA a286, vI (p0 &&& (3 : Int32)), vA a297, vI 1, vI 1] [(.ref a297), .int 1])) (fun _ k => XS.istore A301.here hx rfl (hb hby at_239) rfl (l' := #[vI p0, vI p1, vI p2, vI p3, vA a178, vA a179, vA a181, vI ((XT.ushr p1 (4 : Int32)) - ((XT.ushr p1 (4 : Int32)) / (3 : Int32)) * (3 : Int32)), vA s8, vA a286, vI (p0 &&& (3 : Int32)), vA a297, vI 1, vI 1]) rfl (XS.iload A301.here hx rfl (hb hby at_241) rfl (XS.iload A301.here hx rfl (hb hby at_243) rfl (XS.icmpNo A301.here hx rfl (hb hby at_245) rfl (by decide) (XS.iload A301.here hx rfl (hb hby at_248) rfl (XS.aload A301.here hx rfl (hb hby at_250) rfl rfl k)))))) ?_
            obtain ⟨v302, T302, h302, AA302, K302, ⟨L302, Q302⟩, st302⟩ := A301.callV hx (y := (⟨"com/example/gate_to_handlers/gatetohandlers/HttpEntity", "getBody", "()Ljava/lang/Object;"⟩ : MethodName)) (z := (⟨"com/example/gate_to_handlers/gatetohandlers/HttpEntity", "getBody", "()Ljava/lang/Object;"⟩ : MethodName)) (tw205 H.1) (tw206 H.1) (tw208 H.1) (tw207 H.1) (nfSel (tw208 H.1)) (by decide) Ec298 (g := (mkF m 252 #[vI p0, vI p1, vI p2, vI p3, vA a178, vA a179, vA a181, vI ((XT.ushr p1 (4 : Int32)) - ((XT.ushr p1 (4 : Int32)) / (3 : Int32)) * (3 : Int32)), vA s8, vA a286, vI (p0 &&& (3 : Int32)), vA a297, vI 1, vI 1] [(.ref a297), .int 1])) rfl (by rw [hml]; rfl) [] [(.int (1 : Int32))] (lenOf pd_15 rfl) rfl (Wd := 1) (Nat.le_refl _) (hb hby at_252) (by decide) (by decide) [] (fun _ _ _ q => q.2) all0 (fun vm0 hZ => payN (ct_gb_a H a297 s8 A301.old Ff298) (tw209 H.1) (tw56 H.1) (by decide) (by decide) hZ)
            obtain ⟨Q302, N302, -⟩ := Q302
            obtain ⟨rfl, q302⟩ := Q302
            have q302 := q302.symm
            subst q302
            have A302 := AA302 [] all0
            refine Run.st (T302.setTop (mkF m 255 #[vI p0, vI p1, vI p2, vI p3, vA a178, vA a179, vA a181, vI ((XT.ushr p1 (4 : Int32)) - ((XT.ushr p1 (4 : Int32)) / (3 : Int32)) * (3 : Int32)), vA s8, vA a286, vI (p0 &&& (3 : Int32)), vA a297, vI 1, vI 1] [(.ref s8), .int 1])) st302 ?_
            refine Run.st (T302.setTop (mkF m 271 #[vI p0, vI p1, vI p2, vI p3, vA a178, vA a179, vA a181, vI ((XT.ushr p1 (4 : Int32)) - ((XT.ushr p1 (4 : Int32)) / (3 : Int32)) * (3 : Int32)), vA s8, vA a286, vI (p0 &&& (3 : Int32)), vA a297, vI 1, vI 1] [.int 1])) (fun _ k => XS.ifnullNo A302.here hx rfl (hb hby at_255) rfl (XS.iconst A302.here hx rfl (hb hby at_258) (XS.goto A302.here hx rfl (pc0 := 259) (pc' := 263) rfl (hb hby at_259) (by decide) (by decide) (XS.icmpNo A302.here hx rfl (hb hby at_263) rfl (by decide) (XS.iconst A302.here hx rfl (hb hby at_266) (XS.goto A302.here hx rfl (pc0 := 267) (pc' := 271) rfl (hb hby at_267) (by decide) (by decide) k)))))) ?_
            exact A302.leaveW hlk hh0 (some (.int (1 : Int32))) (fun q => by rw [hrt] at q; cases q) (by decide) (by decide) rfl (fun X hr => retN X hx (t := .boolean) hrt (by simp) (hb hby at_271) hr)
          · refine Run.st (T287.setTop (mkF m 189 #[vI p0, vI p1, vI p2, vI p3, vA a178, vA a179, vA a181, vI ((XT.ushr p1 (4 : Int32)) - ((XT.ushr p1 (4 : Int32)) / (3 : Int32)) * (3 : Int32)), vA s8, vA a286, vI (p0 &&& (3 : Int32)), .unset, .unset, .unset] [.int 2, .int (p0 &&& (3 : Int32))])) (fun _ k => XS.icmpYes A287.here hx rfl (pc0 := 157) (pc' := 186) rfl (hb hby at_157) rfl (feq c296).2 (by decide) (by decide) (XS.iload A287.here hx rfl (hb hby at_186) rfl (XS.iconst A287.here hx rfl (hb hby at_188) k))) ?_
            by_cases c303 : (p0 &&& (3 : Int32)) = (2 : Int32)
            · refine Run.st (T287.setTop (mkF m 192 #[vI p0, vI p1, vI p2, vI p3, vA a178, vA a179, vA a181, vI ((XT.ushr p1 (4 : Int32)) - ((XT.ushr p1 (4 : Int32)) / (3 : Int32)) * (3 : Int32)), vA s8, vA a286, vI (p0 &&& (3 : Int32)), .unset, .unset, .unset] [])) (fun _ k => XS.icmpNo A287.here hx rfl (hb hby at_189) rfl (teq c303).2 k) ?_
              obtain ⟨a304, T304, h304, A304, E304, g304, Ex304, D304, st304⟩ := A287.newO hx (tw54 H.1) (tw55 H.1) (tw56 H.1) (g := (mkF m 192 #[vI p0, vI p1, vI p2, vI p3, vA a178, vA a179, vA a181, vI ((XT.ushr p1 (4 : Int32)) - ((XT.ushr p1 (4 : Int32)) / (3 : Int32)) * (3 : Int32)), vA s8, vA a286, vI (p0 &&& (3 : Int32)), .unset, .unset, .unset] [])) rfl (hb hby at_192) (by decide) (by decide)
              refine Run.st (T304.setTop (mkF m 195 #[vI p0, vI p1, vI p2, vI p3, vA a178, vA a179, vA a181, vI ((XT.ushr p1 (4 : Int32)) - ((XT.ushr p1 (4 : Int32)) / (3 : Int32)) * (3 : Int32)), vA s8, vA a286, vI (p0 &&& (3 : Int32)), .unset, .unset, .unset] [(.ref a304)])) st304 ?_
              refine Run.st (T304.setTop (mkF m 200 #[vI p0, vI p1, vI p2, vI p3, vA a178, vA a179, vA a181, vI ((XT.ushr p1 (4 : Int32)) - ((XT.ushr p1 (4 : Int32)) / (3 : Int32)) * (3 : Int32)), vA s8, vA a286, vI (p0 &&& (3 : Int32)), .unset, .unset, .unset] [(.ref a286), (.ref s8), (.ref a304), (.ref a304)])) (fun _ k => XS.dup A304.here hx rfl (hb hby at_195) rfl rfl (XS.aload A304.here hx rfl (hb hby at_196) rfl rfl (XS.aload A304.here hx rfl (hb hby at_198) rfl rfl k))) ?_
              have F306 : Fld Z h304 a304 "com/example/gate_to_handlers/gatetohandlers/HttpEntity" "body" "Ljava/lang/Object;" .null := D304 (Or.inr (tw65 H.1)) (ty := (.object "java/lang/Object")) (by decide)
              have F307 : Fld Z h304 a304 "com/example/gate_to_handlers/gatetohandlers/HttpEntity" "headers" "Lcom/example/gate_to_handlers/gatetohandlers/HttpHeaders;" .null := D304 (Or.inr (tw199 H.1)) (ty := (.object "com/example/gate_to_handlers/gatetohandlers/HttpHeaders")) (by decide)
              have X308 : Ext h287 h304 := E304
              have f309 := Ff287.ext X308
              have f310 := Te287.ext X308
              have f311 := Tr287.ext X308
              have f312 := Ts287.ext X308
              have f313 := Tm287.ext X308
              have f314 := Ec287.ext X308
              obtain ⟨v305, T305, h305, AA305, K305, ⟨L305, Q305⟩, st305⟩ := A304.callI hx (y := (⟨"com/example/gate_to_handlers/gatetohandlers/HttpEntity", "<init>", "(Ljava/lang/Object;Lcom/example/gate_to_handlers/gatetohandlers/HttpHeaders;)V"⟩ : MethodName)) rfl (tw213 H.1) (tw61 H.1) (tw62 H.1) (by decide) (g := (mkF m 200 #[vI p0, vI p1, vI p2, vI p3, vA a178, vA a179, vA a181, vI ((XT.ushr p1 (4 : Int32)) - ((XT.ushr p1 (4 : Int32)) / (3 : Int32)) * (3 : Int32)), vA s8, vA a286, vI (p0 &&& (3 : Int32)), .unset, .unset, .unset] [(.ref a286), (.ref s8), (.ref a304), (.ref a304)])) rfl (by rw [hml]; rfl) a304 [(.ref s8), (.ref a286)] [(.ref a304)] (lenOf pd_13 rfl) rfl (Wd := 1) (Nat.le_refl _) (hb hby at_200) (by decide) (by decide) [a304, t287] (fun _ _ _ q => q.2) (allS (List.mem_of_getElem? (i := 0) rfl) (allS (List.mem_of_getElem? (i := 1) rfl) all0)) (fun vm0 hZ => payN (ct_heg H a304 .null .null (.ref s8) a286 t287 A304.old Ex304 (A304.nle (List.mem_of_getElem? (i := 0) rfl)) Ex304.lt F306 F307 rfl f314 f309 f310 f311 f312 f313 (A304.nle (List.mem_of_getElem? (i := 1) rfl)) f310.lt) (tw62 H.1) (tw56 H.1) (by decide) (by decide) hZ)
              obtain ⟨Q305, N305, -⟩ := Q305
              obtain ⟨rfl, Ec305, Ff305⟩ := Q305
              have A305 := AA305 [] all0
              refine Run.st (T305.setTop (mkF m 203 #[vI p0, vI p1, vI p2, vI p3, vA a178, vA a179, vA a181, vI ((XT.ushr p1 (4 : Int32)) - ((XT.ushr p1 (4 : Int32)) / (3 : Int32)) * (3 : Int32)), vA s8, vA a286, vI (p0 &&& (3 : Int32)), .unset, .unset, .unset] [(.ref a304)])) st305 ?_
              refine Run.st (T305.setTop (mkF m 236 #[vI p0, vI p1, vI p2, vI p3, vA a178, vA a179, vA a181, vI ((XT.ushr p1 (4 : Int32)) - ((XT.ushr p1 (4 : Int32)) / (3 : Int32)) * (3 : Int32)), vA s8, vA a286, vI (p0 &&& (3 : Int32)), vA a304, vI 1, .unset] [(.ref a304)])) (fun _ k => XS.astore A305.here hx rfl (hb hby at_203) rfl rfl (l' := #[vI p0, vI p1, vI p2, vI p3, vA a178, vA a179, vA a181, vI ((XT.ushr p1 (4 : Int32)) - ((XT.ushr p1 (4 : Int32)) / (3 : Int32)) * (3 : Int32)), vA s8, vA a286, vI (p0 &&& (3 : Int32)), vA a304, .unset, .unset]) rfl (XS.aload A305.here hx rfl (hb hby at_205) rfl rfl (XS.ifnullNo A305.here hx rfl (hb hby at_207) rfl (XS.iconst A305.here hx rfl (hb hby at_210) (XS.goto A305.here hx rfl (pc0 := 211) (pc' := 215) rfl (hb hby at_211) (by decide) (by decide) (XS.istore A305.here hx rfl (hb hby at_215) rfl (l' := #[vI p0, vI p1, vI p2, vI p3, vA a178, vA a179, vA a181, vI ((XT.ushr p1 (4 : Int32)) - ((XT.ushr p1 (4 : Int32)) / (3 : Int32)) * (3 : Int32)), vA s8, vA a286, vI (p0 &&& (3 : Int32)), vA a304, vI 1, .unset]) rfl (XS.goto A305.here hx rfl (pc0 := 217) (pc' := 234) rfl (hb hby at_217) (by decide) (by decide) (XS.aload A305.here hx rfl (hb hby at_234) rfl rfl k)))))))) ?_
              obtain ⟨v315, T315, h315, AA315, K315, ⟨L315, Q315⟩, st315⟩ := A305.callV hx (y := (⟨"com/example/gate_to_handlers/gatetohandlers/HttpEntity", "hasBody", "()Z"⟩ : MethodName)) (z := (⟨"com/example/gate_to_handlers/gatetohandlers/HttpEntity", "hasBody", "()Z"⟩ : MethodName)) (tw200 H.1) (tw201 H.1) (tw203 H.1) (tw202 H.1) (nfSel (tw203 H.1)) (by decide) Ec305 (g := (mkF m 236 #[vI p0, vI p1, vI p2, vI p3, vA a178, vA a179, vA a181, vI ((XT.ushr p1 (4 : Int32)) - ((XT.ushr p1 (4 : Int32)) / (3 : Int32)) * (3 : Int32)), vA s8, vA a286, vI (p0 &&& (3 : Int32)), vA a304, vI 1, .unset] [(.ref a304)])) rfl (by rw [hml]; rfl) [] [] (lenOf pd_9 rfl) rfl (Wd := 0) (Nat.le_refl _) (hb hby at_236) (by decide) (by decide) [] (fun _ _ _ q => q.2) all0 (fun vm0 hZ => payN (ct_hb_a H a304 s8 A305.old Ff305) (tw204 H.1) (tw56 H.1) (by decide) (by decide) hZ)
              obtain ⟨Q315, N315, -⟩ := Q315
              obtain ⟨rfl, q315⟩ := Q315
              have q315 := q315.symm
              subst q315
              have A315 := AA315 [] all0
              refine Run.st (T315.setTop (mkF m 239 #[vI p0, vI p1, vI p2, vI p3, vA a178, vA a179, vA a181, vI ((XT.ushr p1 (4 : Int32)) - ((XT.ushr p1 (4 : Int32)) / (3 : Int32)) * (3 : Int32)), vA s8, vA a286, vI (p0 &&& (3 : Int32)), vA a304, vI 1, .unset] [.int 1])) st315 ?_
              refine Run.st (T315.setTop (mkF m 252 #[vI p0, vI p1, vI p2, vI p3, vA a178, vA a179, vA a181, vI ((XT.ushr p1 (4 : Int32)) - ((XT.ushr p1 (4 : Int32)) / (3 : Int32)) * (3 : Int32)), vA s8, vA a286, vI (p0 &&& (3 : Int32)), vA a304, vI 1, vI 1] [(.ref a304), .int 1])) (fun _ k => XS.istore A315.here hx rfl (hb hby at_239) rfl (l' := #[vI p0, vI p1, vI p2, vI p3, vA a178, vA a179, vA a181, vI ((XT.ushr p1 (4 : Int32)) - ((XT.ushr p1 (4 : Int32)) / (3 : Int32)) * (3 : Int32)), vA s8, vA a286, vI (p0 &&& (3 : Int32)), vA a304, vI 1, vI 1]) rfl (XS.iload A315.here hx rfl (hb hby at_241) rfl (XS.iload A315.here hx rfl (hb hby at_243) rfl (XS.icmpNo A315.here hx rfl (hb hby at_245) rfl (by decide) (XS.iload A315.here hx rfl (hb hby at_248) rfl (XS.aload A315.here hx rfl (hb hby at_250) rfl rfl k)))))) ?_
              obtain ⟨v316, T316, h316, AA316, K316, ⟨L316, Q316⟩, st316⟩ := A315.callV hx (y := (⟨"com/example/gate_to_handlers/gatetohandlers/HttpEntity", "getBody", "()Ljava/lang/Object;"⟩ : MethodName)) (z := (⟨"com/example/gate_to_handlers/gatetohandlers/HttpEntity", "getBody", "()Ljava/lang/Object;"⟩ : MethodName)) (tw205 H.1) (tw206 H.1) (tw208 H.1) (tw207 H.1) (nfSel (tw208 H.1)) (by decide) Ec305 (g := (mkF m 252 #[vI p0, vI p1, vI p2, vI p3, vA a178, vA a179, vA a181, vI ((XT.ushr p1 (4 : Int32)) - ((XT.ushr p1 (4 : Int32)) / (3 : Int32)) * (3 : Int32)), vA s8, vA a286, vI (p0 &&& (3 : Int32)), vA a304, vI 1, vI 1] [(.ref a304), .int 1])) rfl (by rw [hml]; rfl) [] [(.int (1 : Int32))] (lenOf pd_15 rfl) rfl (Wd := 1) (Nat.le_refl _) (hb hby at_252) (by decide) (by decide) [] (fun _ _ _ q => q.2) all0 (fun vm0 hZ => payN (ct_gb_a H a304 s8 A315.old Ff305) (tw209 H.1) (tw56 H.1) (by decide) (by decide) hZ)
              obtain ⟨Q316, N316, -⟩ := Q316
              obtain ⟨rfl, q316⟩ := Q316
              have q316 := q316.symm
              subst q316
              have A316 := AA316 [] all0
              refine Run.st (T316.setTop (mkF m 255 #[vI p0, vI p1, vI p2, vI p3, vA a178, vA a179, vA a181, vI ((XT.ushr p1 (4 : Int32)) - ((XT.ushr p1 (4 : Int32)) / (3 : Int32)) * (3 : Int32)), vA s8, vA a286, vI (p0 &&& (3 : Int32)), vA a304, vI 1, vI 1] [(.ref s8), .int 1])) st316 ?_
              refine Run.st (T316.setTop (mkF m 271 #[vI p0, vI p1, vI p2, vI p3, vA a178, vA a179, vA a181, vI ((XT.ushr p1 (4 : Int32)) - ((XT.ushr p1 (4 : Int32)) / (3 : Int32)) * (3 : Int32)), vA s8, vA a286, vI (p0 &&& (3 : Int32)), vA a304, vI 1, vI 1] [.int 1])) (fun _ k => XS.ifnullNo A316.here hx rfl (hb hby at_255) rfl (XS.iconst A316.here hx rfl (hb hby at_258) (XS.goto A316.here hx rfl (pc0 := 259) (pc' := 263) rfl (hb hby at_259) (by decide) (by decide) (XS.icmpNo A316.here hx rfl (hb hby at_263) rfl (by decide) (XS.iconst A316.here hx rfl (hb hby at_266) (XS.goto A316.here hx rfl (pc0 := 267) (pc' := 271) rfl (hb hby at_267) (by decide) (by decide) k)))))) ?_
              exact A316.leaveW hlk hh0 (some (.int (1 : Int32))) (fun q => by rw [hrt] at q; cases q) (by decide) (by decide) rfl (fun X hr => retN X hx (t := .boolean) hrt (by simp) (hb hby at_271) hr)
            · refine Run.st (T287.setTop (mkF m 220 #[vI p0, vI p1, vI p2, vI p3, vA a178, vA a179, vA a181, vI ((XT.ushr p1 (4 : Int32)) - ((XT.ushr p1 (4 : Int32)) / (3 : Int32)) * (3 : Int32)), vA s8, vA a286, vI (p0 &&& (3 : Int32)), .unset, .unset, .unset] [])) (fun _ k => XS.icmpYes A287.here hx rfl (pc0 := 189) (pc' := 220) rfl (hb hby at_189) rfl (feq c303).2 (by decide) (by decide) k) ?_
              obtain ⟨a317, T317, h317, A317, E317, g317, Ex317, D317, st317⟩ := A287.newO hx (tw54 H.1) (tw55 H.1) (tw56 H.1) (g := (mkF m 220 #[vI p0, vI p1, vI p2, vI p3, vA a178, vA a179, vA a181, vI ((XT.ushr p1 (4 : Int32)) - ((XT.ushr p1 (4 : Int32)) / (3 : Int32)) * (3 : Int32)), vA s8, vA a286, vI (p0 &&& (3 : Int32)), .unset, .unset, .unset] [])) rfl (hb hby at_220) (by decide) (by decide)
              refine Run.st (T317.setTop (mkF m 223 #[vI p0, vI p1, vI p2, vI p3, vA a178, vA a179, vA a181, vI ((XT.ushr p1 (4 : Int32)) - ((XT.ushr p1 (4 : Int32)) / (3 : Int32)) * (3 : Int32)), vA s8, vA a286, vI (p0 &&& (3 : Int32)), .unset, .unset, .unset] [(.ref a317)])) st317 ?_
              refine Run.st (T317.setTop (mkF m 226 #[vI p0, vI p1, vI p2, vI p3, vA a178, vA a179, vA a181, vI ((XT.ushr p1 (4 : Int32)) - ((XT.ushr p1 (4 : Int32)) / (3 : Int32)) * (3 : Int32)), vA s8, vA a286, vI (p0 &&& (3 : Int32)), .unset, .unset, .unset] [(.ref a286), (.ref a317), (.ref a317)])) (fun _ k => XS.dup A317.here hx rfl (hb hby at_223) rfl rfl (XS.aload A317.here hx rfl (hb hby at_224) rfl rfl k)) ?_
              have F319 : Fld Z h317 a317 "com/example/gate_to_handlers/gatetohandlers/HttpEntity" "body" "Ljava/lang/Object;" .null := D317 (Or.inr (tw65 H.1)) (ty := (.object "java/lang/Object")) (by decide)
              have F320 : Fld Z h317 a317 "com/example/gate_to_handlers/gatetohandlers/HttpEntity" "headers" "Lcom/example/gate_to_handlers/gatetohandlers/HttpHeaders;" .null := D317 (Or.inr (tw199 H.1)) (ty := (.object "com/example/gate_to_handlers/gatetohandlers/HttpHeaders")) (by decide)
              have X321 : Ext h287 h317 := E317
              have f322 := Ff287.ext X321
              have f323 := Te287.ext X321
              have f324 := Tr287.ext X321
              have f325 := Ts287.ext X321
              have f326 := Tm287.ext X321
              have f327 := Ec287.ext X321
              obtain ⟨v318, T318, h318, AA318, K318, ⟨L318, Q318⟩, st318⟩ := A317.callI hx (y := (⟨"com/example/gate_to_handlers/gatetohandlers/HttpEntity", "<init>", "(Lcom/example/gate_to_handlers/gatetohandlers/HttpHeaders;)V"⟩ : MethodName)) rfl (tw210 H.1) (tw211 H.1) (tw212 H.1) (by decide) (g := (mkF m 226 #[vI p0, vI p1, vI p2, vI p3, vA a178, vA a179, vA a181, vI ((XT.ushr p1 (4 : Int32)) - ((XT.ushr p1 (4 : Int32)) / (3 : Int32)) * (3 : Int32)), vA s8, vA a286, vI (p0 &&& (3 : Int32)), .unset, .unset, .unset] [(.ref a286), (.ref a317), (.ref a317)])) rfl (by rw [hml]; rfl) a317 [(.ref a286)] [(.ref a317)] (lenOf pd_17 rfl) rfl (Wd := 1) (Nat.le_refl _) (hb hby at_226) (by decide) (by decide) [a317, t287] (fun _ _ _ q => q.2) (allS (List.mem_of_getElem? (i := 0) rfl) (allS (List.mem_of_getElem? (i := 1) rfl) all0)) (fun vm0 hZ => payN (ct_hehg H a317 .null .null a286 t287 A317.old Ex317 (A317.nle (List.mem_of_getElem? (i := 0) rfl)) Ex317.lt F319 F320 f327 f322 f323 f324 f325 f326 (A317.nle (List.mem_of_getElem? (i := 1) rfl)) f323.lt) (tw212 H.1) (tw56 H.1) (by decide) (by decide) hZ)
              obtain ⟨Q318, N318, -⟩ := Q318
              obtain ⟨rfl, Ec318, Ff318⟩ := Q318
              have A318 := AA318 [] all0
              refine Run.st (T318.setTop (mkF m 229 #[vI p0, vI p1, vI p2, vI p3, vA a178, vA a179, vA a181, vI ((XT.ushr p1 (4 : Int32)) - ((XT.ushr p1 (4 : Int32)) / (3 : Int32)) * (3 : Int32)), vA s8, vA a286, vI (p0 &&& (3 : Int32)), .unset, .unset, .unset] [(.ref a317)])) st318 ?_
              refine Run.st (T318.setTop (mkF m 236 #[vI p0, vI p1, vI p2, vI p3, vA a178, vA a179, vA a181, vI ((XT.ushr p1 (4 : Int32)) - ((XT.ushr p1 (4 : Int32)) / (3 : Int32)) * (3 : Int32)), vA s8, vA a286, vI (p0 &&& (3 : Int32)), vA a317, vI 0, .unset] [(.ref a317)])) (fun _ k => XS.astore A318.here hx rfl (hb hby at_229) rfl rfl (l' := #[vI p0, vI p1, vI p2, vI p3, vA a178, vA a179, vA a181, vI ((XT.ushr p1 (4 : Int32)) - ((XT.ushr p1 (4 : Int32)) / (3 : Int32)) * (3 : Int32)), vA s8, vA a286, vI (p0 &&& (3 : Int32)), vA a317, .unset, .unset]) rfl (XS.iconst A318.here hx rfl (hb hby at_231) (XS.istore A318.here hx rfl (hb hby at_232) rfl (l' := #[vI p0, vI p1, vI p2, vI p3, vA a178, vA a179, vA a181, vI ((XT.ushr p1 (4 : Int32)) - ((XT.ushr p1 (4 : Int32)) / (3 : Int32)) * (3 : Int32)), vA s8, vA a286, vI (p0 &&& (3 : Int32)), vA a317, vI 0, .unset]) rfl (XS.aload A318.here hx rfl (hb hby at_234) rfl rfl k)))) ?_
              obtain ⟨v328, T328, h328, AA328, K328, ⟨L328, Q328⟩, st328⟩ := A318.callV hx (y := (⟨"com/example/gate_to_handlers/gatetohandlers/HttpEntity", "hasBody", "()Z"⟩ : MethodName)) (z := (⟨"com/example/gate_to_handlers/gatetohandlers/HttpEntity", "hasBody", "()Z"⟩ : MethodName)) (tw200 H.1) (tw201 H.1) (tw203 H.1) (tw202 H.1) (nfSel (tw203 H.1)) (by decide) Ec318 (g := (mkF m 236 #[vI p0, vI p1, vI p2, vI p3, vA a178, vA a179, vA a181, vI ((XT.ushr p1 (4 : Int32)) - ((XT.ushr p1 (4 : Int32)) / (3 : Int32)) * (3 : Int32)), vA s8, vA a286, vI (p0 &&& (3 : Int32)), vA a317, vI 0, .unset] [(.ref a317)])) rfl (by rw [hml]; rfl) [] [] (lenOf pd_9 rfl) rfl (Wd := 0) (Nat.le_refl _) (hb hby at_236) (by decide) (by decide) [] (fun _ _ _ q => q.2) all0 (fun vm0 hZ => payN (ct_hb_n H a317 A318.old Ff318) (tw204 H.1) (tw56 H.1) (by decide) (by decide) hZ)
              obtain ⟨Q328, N328, -⟩ := Q328
              obtain ⟨rfl, q328⟩ := Q328
              have q328 := q328.symm
              subst q328
              have A328 := AA328 [] all0
              refine Run.st (T328.setTop (mkF m 239 #[vI p0, vI p1, vI p2, vI p3, vA a178, vA a179, vA a181, vI ((XT.ushr p1 (4 : Int32)) - ((XT.ushr p1 (4 : Int32)) / (3 : Int32)) * (3 : Int32)), vA s8, vA a286, vI (p0 &&& (3 : Int32)), vA a317, vI 0, .unset] [.int 0])) st328 ?_
              refine Run.st (T328.setTop (mkF m 252 #[vI p0, vI p1, vI p2, vI p3, vA a178, vA a179, vA a181, vI ((XT.ushr p1 (4 : Int32)) - ((XT.ushr p1 (4 : Int32)) / (3 : Int32)) * (3 : Int32)), vA s8, vA a286, vI (p0 &&& (3 : Int32)), vA a317, vI 0, vI 0] [(.ref a317), .int 0])) (fun _ k => XS.istore A328.here hx rfl (hb hby at_239) rfl (l' := #[vI p0, vI p1, vI p2, vI p3, vA a178, vA a179, vA a181, vI ((XT.ushr p1 (4 : Int32)) - ((XT.ushr p1 (4 : Int32)) / (3 : Int32)) * (3 : Int32)), vA s8, vA a286, vI (p0 &&& (3 : Int32)), vA a317, vI 0, vI 0]) rfl (XS.iload A328.here hx rfl (hb hby at_241) rfl (XS.iload A328.here hx rfl (hb hby at_243) rfl (XS.icmpNo A328.here hx rfl (hb hby at_245) rfl (by decide) (XS.iload A328.here hx rfl (hb hby at_248) rfl (XS.aload A328.here hx rfl (hb hby at_250) rfl rfl k)))))) ?_
              obtain ⟨v329, T329, h329, AA329, K329, ⟨L329, Q329⟩, st329⟩ := A328.callV hx (y := (⟨"com/example/gate_to_handlers/gatetohandlers/HttpEntity", "getBody", "()Ljava/lang/Object;"⟩ : MethodName)) (z := (⟨"com/example/gate_to_handlers/gatetohandlers/HttpEntity", "getBody", "()Ljava/lang/Object;"⟩ : MethodName)) (tw205 H.1) (tw206 H.1) (tw208 H.1) (tw207 H.1) (nfSel (tw208 H.1)) (by decide) Ec318 (g := (mkF m 252 #[vI p0, vI p1, vI p2, vI p3, vA a178, vA a179, vA a181, vI ((XT.ushr p1 (4 : Int32)) - ((XT.ushr p1 (4 : Int32)) / (3 : Int32)) * (3 : Int32)), vA s8, vA a286, vI (p0 &&& (3 : Int32)), vA a317, vI 0, vI 0] [(.ref a317), .int 0])) rfl (by rw [hml]; rfl) [] [(.int (0 : Int32))] (lenOf pd_15 rfl) rfl (Wd := 1) (Nat.le_refl _) (hb hby at_252) (by decide) (by decide) [] (fun _ _ _ q => q.2) all0 (fun vm0 hZ => payN (ct_gb_n H a317 A328.old Ff318) (tw209 H.1) (tw56 H.1) (by decide) (by decide) hZ)
              obtain ⟨Q329, N329, -⟩ := Q329
              obtain ⟨rfl, q329⟩ := Q329
              have q329 := q329.symm
              subst q329
              have A329 := AA329 [] all0
              refine Run.st (T329.setTop (mkF m 255 #[vI p0, vI p1, vI p2, vI p3, vA a178, vA a179, vA a181, vI ((XT.ushr p1 (4 : Int32)) - ((XT.ushr p1 (4 : Int32)) / (3 : Int32)) * (3 : Int32)), vA s8, vA a286, vI (p0 &&& (3 : Int32)), vA a317, vI 0, vI 0] [.null, .int 0])) st329 ?_
              refine Run.st (T329.setTop (mkF m 271 #[vI p0, vI p1, vI p2, vI p3, vA a178, vA a179, vA a181, vI ((XT.ushr p1 (4 : Int32)) - ((XT.ushr p1 (4 : Int32)) / (3 : Int32)) * (3 : Int32)), vA s8, vA a286, vI (p0 &&& (3 : Int32)), vA a317, vI 0, vI 0] [.int 1])) (fun _ k => XS.ifnullYes A329.here hx rfl (pc0 := 255) (pc' := 262) rfl (hb hby at_255) rfl (by decide) (by decide) (XS.iconst A329.here hx rfl (hb hby at_262) (XS.icmpNo A329.here hx rfl (hb hby at_263) rfl (by decide) (XS.iconst A329.here hx rfl (hb hby at_266) (XS.goto A329.here hx rfl (pc0 := 267) (pc' := 271) rfl (hb hby at_267) (by decide) (by decide) k))))) ?_
              exact A329.leaveW hlk hh0 (some (.int (1 : Int32))) (fun q => by rw [hrt] at q; cases q) (by decide) (by decide) rfl (fun X hr => retN X hx (t := .boolean) hrt (by simp) (hb hby at_271) hr)
    refine Run.st (T183.setTop (mkF m 63 #[vI p0, vI p1, vI p2, vI p3, vA a178, vA a179, vA a181, vI ((XT.ushr p1 (4 : Int32)) - ((XT.ushr p1 (4 : Int32)) / (3 : Int32)) * (3 : Int32)), .val .null, .unset, .unset, .unset, .unset, .unset] [.int ((XT.ushr p1 (4 : Int32)) - ((XT.ushr p1 (4 : Int32)) / (3 : Int32)) * (3 : Int32))])) (fun _ k => XS.iload A183.here hx rfl (hb hby at_61) rfl k) ?_
    by_cases c330 : ((XT.ushr p1 (4 : Int32)) - ((XT.ushr p1 (4 : Int32)) / (3 : Int32)) * (3 : Int32)) = (0 : Int32)
    · refine Run.st (T183.setTop (mkF m 66 #[vI p0, vI p1, vI p2, vI p3, vA a178, vA a179, vA a181, vI ((XT.ushr p1 (4 : Int32)) - ((XT.ushr p1 (4 : Int32)) / (3 : Int32)) * (3 : Int32)), .val .null, .unset, .unset, .unset, .unset, .unset] [])) (fun _ k => XS.ifNo A183.here hx rfl (hb hby at_63) rfl (by rw [if0]; exact (teq c330).2) k) ?_
      obtain ⟨a331, T331, h331, A331, E331, g331, Ex331, D331, st331⟩ := A183.newO hx (tw1 H.1) (tw2 H.1) (tw3 H.1) (g := (mkF m 66 #[vI p0, vI p1, vI p2, vI p3, vA a178, vA a179, vA a181, vI ((XT.ushr p1 (4 : Int32)) - ((XT.ushr p1 (4 : Int32)) / (3 : Int32)) * (3 : Int32)), .val .null, .unset, .unset, .unset, .unset, .unset] [])) rfl (hb hby at_66) (by decide) (by decide)
      refine Run.st (T331.setTop (mkF m 69 #[vI p0, vI p1, vI p2, vI p3, vA a178, vA a179, vA a181, vI ((XT.ushr p1 (4 : Int32)) - ((XT.ushr p1 (4 : Int32)) / (3 : Int32)) * (3 : Int32)), .val .null, .unset, .unset, .unset, .unset, .unset] [(.ref a331)])) st331 ?_
      refine Run.st (T331.setTop (mkF m 72 #[vI p0, vI p1, vI p2, vI p3, vA a178, vA a179, vA a181, vI ((XT.ushr p1 (4 : Int32)) - ((XT.ushr p1 (4 : Int32)) / (3 : Int32)) * (3 : Int32)), .val .null, .unset, .unset, .unset, .unset, .unset] [(.ref a178), (.ref a331), (.ref a331)])) (fun _ k => XS.dup A331.here hx rfl (hb hby at_69) rfl rfl (XS.aload A331.here hx rfl (hb hby at_70) rfl rfl k)) ?_
      have F333 : Fld Z h331 a331 "java/lang/String" "value" "[B" .null := D331 (Or.inr (tw16 H.1)) (ty := (.array .byte)) (by decide)
      have F334 : Fld Z h331 a331 "java/lang/String" "coder" "B" (.int 0) := D331 (Or.inr (tw17 H.1)) (ty := .byte) (by decide)
      have Z335 : h178.size ≤ h179.size := E179.1
      have Z336 : h178.size ≤ h180.size := Nat.le_trans Z335 K180.1
      have X337 : Ext h178 h179 := E179
      have X338 : Ext h178 h180 := extK X337 K180 (allS (Nat.le_of_eq g179) all0)
      have X339 : Ext h178 h181 := (extT X338 E181)
      have X340 : Ext h178 h182 := extK X339 K182 (allS (Nat.le_trans Z336 (Nat.le_of_eq g181)) all0)
      have X341 : Ext h178 h183 := extK X340 K183 (allS (Nat.le_trans Z336 (Nat.le_of_eq g181)) all0)
      have X342 : Ext h178 h331 := (extT X341 E331)
      have f343 := V178.ext X342
      obtain ⟨v332, T332, h332, A332, K332, ⟨L332, Q332⟩, st332⟩ := A331.callIW hx (y := (⟨"java/lang/String", "<init>", "([C)V"⟩ : MethodName)) rfl (tw4 H.1) (tw5 H.1) (tw6 H.1) (by decide) (g := (mkF m 72 #[vI p0, vI p1, vI p2, vI p3, vA a178, vA a179, vA a181, vI ((XT.ushr p1 (4 : Int32)) - ((XT.ushr p1 (4 : Int32)) / (3 : Int32)) * (3 : Int32)), .val .null, .unset, .unset, .unset, .unset, .unset] [(.ref a178), (.ref a331), (.ref a331)])) rfl (by rw [hml]; rfl) a331 [(.ref a178)] [(.ref a331)] (lenOf pd_18 rfl) rfl (Wd := 1) (Nat.le_refl _) (hb hby at_72) (by decide) (by decide) [a331] (fun _ _ _ q => q.2) (allS (List.mem_of_getElem? (i := 0) rfl) all0) (fun vm0 hZ hE hC hS => payW (ct_ini1 H a331 a178 .null (.int 0) _ _ A331.old Ex331 (A331.nle (List.mem_of_getElem? (i := 0) rfl)) Ex331.lt F333 F334 f343) (tw6 H.1) (tw3 H.1) (by decide) (by decide) hZ hE hC hS)
      obtain ⟨Q332, N332, -⟩ := Q332
      obtain ⟨rfl, S332⟩ := Q332
      refine Run.st (T332.setTop (mkF m 75 #[vI p0, vI p1, vI p2, vI p3, vA a178, vA a179, vA a181, vI ((XT.ushr p1 (4 : Int32)) - ((XT.ushr p1 (4 : Int32)) / (3 : Int32)) * (3 : Int32)), .val .null, .unset, .unset, .unset, .unset, .unset] [(.ref a331)])) st332 ?_
      refine Run.st (T332.setTop (mkF m 111 #[vI p0, vI p1, vI p2, vI p3, vA a178, vA a179, vA a181, vI ((XT.ushr p1 (4 : Int32)) - ((XT.ushr p1 (4 : Int32)) / (3 : Int32)) * (3 : Int32)), vA a331, .unset, .unset, .unset, .unset, .unset] [])) (fun _ k => XS.astore A332.here hx rfl (hb hby at_75) rfl rfl (l' := #[vI p0, vI p1, vI p2, vI p3, vA a178, vA a179, vA a181, vI ((XT.ushr p1 (4 : Int32)) - ((XT.ushr p1 (4 : Int32)) / (3 : Int32)) * (3 : Int32)), vA a331, .unset, .unset, .unset, .unset, .unset]) rfl (XS.goto A332.here hx rfl (pc0 := 77) (pc' := 111) rfl (hb hby at_77) (by decide) (by decide) k)) ?_
      have X344 : Ext h183 h331 := E331
      have X345 : Ext h183 h332 := extK X344 K332 (allS (Nat.le_of_eq g331) all0)
      exact jn257 T332 h332 a331 ((A332.less fun x hx => List.mem_cons_of_mem _ (hx)).mono (by decide) (by decide)) X345
    · refine Run.st (T183.setTop (mkF m 83 #[vI p0, vI p1, vI p2, vI p3, vA a178, vA a179, vA a181, vI ((XT.ushr p1 (4 : Int32)) - ((XT.ushr p1 (4 : Int32)) / (3 : Int32)) * (3 : Int32)), .val .null, .unset, .unset, .unset, .unset, .unset] [.int 1, .int ((XT.ushr p1 (4 : Int32)) - ((XT.ushr p1 (4 : Int32)) / (3 : Int32)) * (3 : Int32))])) (fun _ k => XS.ifYes A183.here hx rfl (pc0 := 63) (pc' := 80) rfl (hb hby at_63) rfl (by rw [if0]; exact (feq c330).2) (by decide) (by decide) (XS.iload A183.here hx rfl (hb hby at_80) rfl (XS.iconst A183.here hx rfl (hb hby at_82) k))) ?_
      by_cases c346 : ((XT.ushr p1 (4 : Int32)) - ((XT.ushr p1 (4 : Int32)) / (3 : Int32)) * (3 : Int32)) = (1 : Int32)
      · refine Run.st (T183.setTop (mkF m 86 #[vI p0, vI p1, vI p2, vI p3, vA a178, vA a179, vA a181, vI ((XT.ushr p1 (4 : Int32)) - ((XT.ushr p1 (4 : Int32)) / (3 : Int32)) * (3 : Int32)), .val .null, .unset, .unset, .unset, .unset, .unset] [])) (fun _ k => XS.icmpNo A183.here hx rfl (hb hby at_83) rfl (teq c346).2 k) ?_
        obtain ⟨a347, T347, h347, A347, E347, g347, Ex347, D347, st347⟩ := A183.newO hx (tw1 H.1) (tw2 H.1) (tw3 H.1) (g := (mkF m 86 #[vI p0, vI p1, vI p2, vI p3, vA a178, vA a179, vA a181, vI ((XT.ushr p1 (4 : Int32)) - ((XT.ushr p1 (4 : Int32)) / (3 : Int32)) * (3 : Int32)), .val .null, .unset, .unset, .unset, .unset, .unset] [])) rfl (hb hby at_86) (by decide) (by decide)
        refine Run.st (T347.setTop (mkF m 89 #[vI p0, vI p1, vI p2, vI p3, vA a178, vA a179, vA a181, vI ((XT.ushr p1 (4 : Int32)) - ((XT.ushr p1 (4 : Int32)) / (3 : Int32)) * (3 : Int32)), .val .null, .unset, .unset, .unset, .unset, .unset] [(.ref a347)])) st347 ?_
        refine Run.st (T347.setTop (mkF m 92 #[vI p0, vI p1, vI p2, vI p3, vA a178, vA a179, vA a181, vI ((XT.ushr p1 (4 : Int32)) - ((XT.ushr p1 (4 : Int32)) / (3 : Int32)) * (3 : Int32)), .val .null, .unset, .unset, .unset, .unset, .unset] [(.ref a179), (.ref a347), (.ref a347)])) (fun _ k => XS.dup A347.here hx rfl (hb hby at_89) rfl rfl (XS.aload A347.here hx rfl (hb hby at_90) rfl rfl k)) ?_
        have X349 : Ext h180 h181 := E181
        have X350 : Ext h180 h182 := extK X349 K182 (allS (Nat.le_of_eq g181) all0)
        have X351 : Ext h180 h183 := extK X350 K183 (allS (Nat.le_of_eq g181) all0)
        have X352 : Ext h180 h347 := (extT X351 E347)
        have f353 := V180.ext X352
        have V354 : Arv Z h347 a179 kA179 .char (1 : Int32) [(.int (nar .char ((p2 &&& (255 : Int32)).toUInt32.toUInt16.toUInt32.toInt32)))] (.int (0 : Int32)) := f353
        rw [c8n p2] at V354
        have F355 : Fld Z h347 a347 "java/lang/String" "value" "[B" .null := D347 (Or.inr (tw16 H.1)) (ty := (.array .byte)) (by decide)
        have F356 : Fld Z h347 a347 "java/lang/String" "coder" "B" (.int 0) := D347 (Or.inr (tw17 H.1)) (ty := .byte) (by decide)
        obtain ⟨v348, T348, h348, AA348, K348, ⟨L348, Q348⟩, st348⟩ := A347.callI hx (y := (⟨"java/lang/String", "<init>", "([C)V"⟩ : MethodName)) rfl (tw4 H.1) (tw5 H.1) (tw6 H.1) (by decide) (g := (mkF m 92 #[vI p0, vI p1, vI p2, vI p3, vA a178, vA a179, vA a181, vI ((XT.ushr p1 (4 : Int32)) - ((XT.ushr p1 (4 : Int32)) / (3 : Int32)) * (3 : Int32)), .val .null, .unset, .unset, .unset, .unset, .unset] [(.ref a179), (.ref a347), (.ref a347)])) rfl (by rw [hml]; rfl) a347 [(.ref a179)] [(.ref a347)] (lenOf pd_18 rfl) rfl (Wd := 1) (Nat.le_refl _) (hb hby at_92) (by decide) (by decide) [a347] (fun _ _ _ q => q.2.1) (allS (List.mem_of_getElem? (i := 0) rfl) all0) (fun vm0 hZ => payStr (nn := 1) H A347.old (A347.nle (List.mem_of_getElem? (i := 0) rfl)) Ex347 F355 F356 (cs := [(p2 &&& (255 : Int32))]) V354 rfl rfl (by decide) (by decide) (chsS (c8r p2) chs0) (by decide) (by decide) hZ)
        obtain ⟨rfl, -, S348⟩ := Q348
        have A348 := AA348 [] all0
        refine Run.st (T348.setTop (mkF m 95 #[vI p0, vI p1, vI p2, vI p3, vA a178, vA a179, vA a181, vI ((XT.ushr p1 (4 : Int32)) - ((XT.ushr p1 (4 : Int32)) / (3 : Int32)) * (3 : Int32)), .val .null, .unset, .unset, .unset, .unset, .unset] [(.ref a347)])) st348 ?_
        refine Run.st (T348.setTop (mkF m 111 #[vI p0, vI p1, vI p2, vI p3, vA a178, vA a179, vA a181, vI ((XT.ushr p1 (4 : Int32)) - ((XT.ushr p1 (4 : Int32)) / (3 : Int32)) * (3 : Int32)), vA a347, .unset, .unset, .unset, .unset, .unset] [])) (fun _ k => XS.astore A348.here hx rfl (hb hby at_95) rfl rfl (l' := #[vI p0, vI p1, vI p2, vI p3, vA a178, vA a179, vA a181, vI ((XT.ushr p1 (4 : Int32)) - ((XT.ushr p1 (4 : Int32)) / (3 : Int32)) * (3 : Int32)), vA a347, .unset, .unset, .unset, .unset, .unset]) rfl (XS.goto A348.here hx rfl (pc0 := 97) (pc' := 111) rfl (hb hby at_97) (by decide) (by decide) k)) ?_
        have X357 : Ext h183 h347 := E347
        have X358 : Ext h183 h348 := extK X357 K348 (allS (Nat.le_of_eq g347) all0)
        exact jn257 T348 h348 a347 ((A348.less fun x hx => List.mem_cons_of_mem _ (hx)).mono (by decide) (by decide)) X358
      · refine Run.st (T183.setTop (mkF m 100 #[vI p0, vI p1, vI p2, vI p3, vA a178, vA a179, vA a181, vI ((XT.ushr p1 (4 : Int32)) - ((XT.ushr p1 (4 : Int32)) / (3 : Int32)) * (3 : Int32)), .val .null, .unset, .unset, .unset, .unset, .unset] [])) (fun _ k => XS.icmpYes A183.here hx rfl (pc0 := 83) (pc' := 100) rfl (hb hby at_83) rfl (feq c346).2 (by decide) (by decide) k) ?_
        obtain ⟨a359, T359, h359, A359, E359, g359, Ex359, D359, st359⟩ := A183.newO hx (tw1 H.1) (tw2 H.1) (tw3 H.1) (g := (mkF m 100 #[vI p0, vI p1, vI p2, vI p3, vA a178, vA a179, vA a181, vI ((XT.ushr p1 (4 : Int32)) - ((XT.ushr p1 (4 : Int32)) / (3 : Int32)) * (3 : Int32)), .val .null, .unset, .unset, .unset, .unset, .unset] [])) rfl (hb hby at_100) (by decide) (by decide)
        refine Run.st (T359.setTop (mkF m 103 #[vI p0, vI p1, vI p2, vI p3, vA a178, vA a179, vA a181, vI ((XT.ushr p1 (4 : Int32)) - ((XT.ushr p1 (4 : Int32)) / (3 : Int32)) * (3 : Int32)), .val .null, .unset, .unset, .unset, .unset, .unset] [(.ref a359)])) st359 ?_
        refine Run.st (T359.setTop (mkF m 106 #[vI p0, vI p1, vI p2, vI p3, vA a178, vA a179, vA a181, vI ((XT.ushr p1 (4 : Int32)) - ((XT.ushr p1 (4 : Int32)) / (3 : Int32)) * (3 : Int32)), .val .null, .unset, .unset, .unset, .unset, .unset] [(.ref a181), (.ref a359), (.ref a359)])) (fun _ k => XS.dup A359.here hx rfl (hb hby at_103) rfl rfl (XS.aload A359.here hx rfl (hb hby at_104) rfl rfl k)) ?_
        have X361 : Ext h183 h359 := E359
        have f362 := V183.ext X361
        have V363 : Arv Z h359 a181 kA181 .char (2 : Int32) [(.int (nar .char ((p2 &&& (255 : Int32)).toUInt32.toUInt16.toUInt32.toInt32))), (.int (nar .char ((p3 &&& (255 : Int32)).toUInt32.toUInt16.toUInt32.toInt32)))] (.int (0 : Int32)) := f362
        rw [c8n p2, c8n p3] at V363
        have F364 : Fld Z h359 a359 "java/lang/String" "value" "[B" .null := D359 (Or.inr (tw16 H.1)) (ty := (.array .byte)) (by decide)
        have F365 : Fld Z h359 a359 "java/lang/String" "coder" "B" (.int 0) := D359 (Or.inr (tw17 H.1)) (ty := .byte) (by decide)
        obtain ⟨v360, T360, h360, AA360, K360, ⟨L360, Q360⟩, st360⟩ := A359.callI hx (y := (⟨"java/lang/String", "<init>", "([C)V"⟩ : MethodName)) rfl (tw4 H.1) (tw5 H.1) (tw6 H.1) (by decide) (g := (mkF m 106 #[vI p0, vI p1, vI p2, vI p3, vA a178, vA a179, vA a181, vI ((XT.ushr p1 (4 : Int32)) - ((XT.ushr p1 (4 : Int32)) / (3 : Int32)) * (3 : Int32)), .val .null, .unset, .unset, .unset, .unset, .unset] [(.ref a181), (.ref a359), (.ref a359)])) rfl (by rw [hml]; rfl) a359 [(.ref a181)] [(.ref a359)] (lenOf pd_18 rfl) rfl (Wd := 1) (Nat.le_refl _) (hb hby at_106) (by decide) (by decide) [a359] (fun _ _ _ q => q.2.1) (allS (List.mem_of_getElem? (i := 0) rfl) all0) (fun vm0 hZ => payStr (nn := 2) H A359.old (A359.nle (List.mem_of_getElem? (i := 0) rfl)) Ex359 F364 F365 (cs := [(p2 &&& (255 : Int32)), (p3 &&& (255 : Int32))]) V363 rfl rfl (by decide) (by decide) (chsS (c8r p2) (chsS (c8r p3) chs0)) (by decide) (by decide) hZ)
        obtain ⟨rfl, -, S360⟩ := Q360
        have A360 := AA360 [] all0
        refine Run.st (T360.setTop (mkF m 109 #[vI p0, vI p1, vI p2, vI p3, vA a178, vA a179, vA a181, vI ((XT.ushr p1 (4 : Int32)) - ((XT.ushr p1 (4 : Int32)) / (3 : Int32)) * (3 : Int32)), .val .null, .unset, .unset, .unset, .unset, .unset] [(.ref a359)])) st360 ?_
        refine Run.st (T360.setTop (mkF m 111 #[vI p0, vI p1, vI p2, vI p3, vA a178, vA a179, vA a181, vI ((XT.ushr p1 (4 : Int32)) - ((XT.ushr p1 (4 : Int32)) / (3 : Int32)) * (3 : Int32)), vA a359, .unset, .unset, .unset, .unset, .unset] [])) (fun _ k => XS.astore A360.here hx rfl (hb hby at_109) rfl rfl (l' := #[vI p0, vI p1, vI p2, vI p3, vA a178, vA a179, vA a181, vI ((XT.ushr p1 (4 : Int32)) - ((XT.ushr p1 (4 : Int32)) / (3 : Int32)) * (3 : Int32)), vA a359, .unset, .unset, .unset, .unset, .unset]) rfl k) ?_
        have X366 : Ext h183 h360 := extK X361 K360 (allS (Nat.le_of_eq g359) all0)
        exact jn257 T360 h360 a359 ((A360.less fun x hx => List.mem_cons_of_mem _ (hx)).mono (by decide) (by decide)) X366
set_option maxRecDepth 65536 in
set_option maxHeartbeats 40000000 in
theorem comes_1 {Post : Tables → Env → Array Value → State → Outcome → State → Prop} (hpost : ∀ tb e args s v u, (limb_1_1.after args s (.returned v) u = true ∧ limb_1_2.after args s (.returned v) u = true ∧ True) → ReturnedEndW s (.returned v) u (Jvm.fieldLocs frame_1_writes args s ++ Jvm.arrayLocs frame_1_arrays args s ++ Jvm.staticLocs frame_1_statics s) 48 1216 → Post tb e args s (.returned v) u) :
    ArmFor flags0 classFile x code maxLocals ret World_1 tables_1 room_1 Calls_1 rest_1 Pre_1 Post := by
  intro l hfl _ _ p e ha hc hk s m args below hf hA hF happ hP
  obtain ⟨hcalls, hrest, hpre⟩ := hP
  obtain ⟨-, -, -, hnamed, -, -, -, hat⟩ := (Spec.applies_iff hf).mp happ
  obtain ⟨hg, hn⟩ := and_e (Cond.before_iff.mp (show (Jvm.Cond.and given_1 narrow_1).before args s = true from hpre))
  obtain ⟨h1, h2⟩ := and_e hg
  obtain ⟨w0, w1, w2, w3, rfl⟩ : ∃ w0 w1 w2 w3 : Value, args = #[w0, w1, w2, w3] := by
    have hs : args.size = 4 := by simpa [Cond.value, given_1] using h1
    obtain ⟨L⟩ := args
    match L, hs with
    | [w0, w1, w2, w3], _ => exact ⟨w0, w1, w2, w3, rfl⟩
  obtain ⟨g0, r1⟩ := and_e h2
  obtain ⟨i0, e0⟩ := is_v g0
  obtain rfl : w0 = (.int i0) := Option.some.inj e0
  obtain ⟨g1, r2⟩ := and_e r1
  obtain ⟨i1, e1⟩ := is_v g1
  obtain rfl : w1 = (.int i1) := Option.some.inj e1
  obtain ⟨g2, r3⟩ := and_e r2
  obtain ⟨i2, e2⟩ := is_v g2
  obtain rfl : w2 = (.int i2) := Option.some.inj e2
  obtain ⟨i3, e3⟩ := is_v r3
  obtain rfl : w3 = (.int i3) := Option.some.inj e3
  have hw := fun d (hd : d ∈ tables_1) => atoms_spec (ws := Jvm.Cond.code x code maxLocals ret :: tables_1) hat d (List.mem_cons_of_mem _ hd)
  obtain ⟨hsets, hown0⟩ := atoms_of _ (rest_1_c_eq ▸ (show rest_1_c.before _ s = true from hrest))
  have n3 := not_v (Cond.before_iff.mp (hsets _ (List.mem_of_getElem? (i := 5) rfl)))
  obtain ⟨iz, ez⟩ := is_v (Cond.before_iff.mp (hsets _ (List.mem_of_getElem? (i := 4) rfl)))
  have Sz : Sta s s.heap "java/lang/String" "COMPACT_STRINGS" "Z" (.int iz) := Sta.start ez (Or.inl (hsets _ (List.mem_of_getElem? (i := 3) rfl)))
  obtain ⟨vf, ef, rf⟩ := isR_v (Cond.before_iff.mp (hsets _ (List.mem_of_getElem? (i := 11) rfl)))
  have Sf : Sta s s.heap "jdk/internal/util/Preconditions" "SIOOBE_FORMATTER" "Ljava/util/function/BiFunction;" vf := Sta.start ef (Or.inl (hsets _ (List.mem_of_getElem? (i := 10) rfl)))
  have cz : ¬ (iz = (0 : Int32)) := gotF (Cond.eq_ints ez (Term.int_eval (0))) n3
  obtain ⟨ac, _, _, _, ec, -⟩ := Cond.exactly_spec (hsets _ (List.mem_of_getElem? (i := 2) rfl))
  have Sc : Sta s s.heap "java/lang/String" "CASE_INSENSITIVE_ORDER" "Ljava/util/Comparator;" (.ref ac) := Sta.start ec (Or.inl (hsets _ (List.mem_of_getElem? (i := 1) rfl)))
  have hEx : (∃ fc : Value, Sta s s.heap "java/lang/String" "CASE_INSENSITIVE_ORDER" "Ljava/util/Comparator;" fc ∧ fc.isRef = true) ∧ (∃ mT : Addr, Mi s "java/util/TreeMap" mT) ∧ (∃ mU : Addr, Mi s "java/util/Collections$UnmodifiableMap" mU) := ⟨⟨_, Sc, rfl⟩, (by obtain ⟨c, k, m, q1, q2, q3, -⟩ := hcalls.1; exact ⟨m, c, k, q1, q2, q3⟩), (by obtain ⟨c, k, m, q1, q2, q3, -⟩ := hcalls.2.1; exact ⟨m, c, k, q1, q2, q3⟩)⟩
  have H : Ev s _ := ⟨hw, ⟨iz, Sz, cz⟩, ⟨vf, Sf, rf⟩, hEx⟩
  have hCH : CHv s EL s.vm s.heap := CHv.start (elA H) (show ∀ p ∈ EL, Jvm.Lit.constHeld s p.1 p.2 from hcalls.2.2.1) (hcw := hsets _ (List.mem_of_getElem? (i := 5) rfl)) (H.1 _ (by decide +kernel : Jvm.Cond.arrayClass .byte ∈ tables_1)) (H.1 _ (by decide +kernel : Jvm.Cond.instantiable "java/lang/String" 4 ∈ tables_1))
  obtain ⟨n, o, h1, h2, h3, _, L, rfl, ⟨hQ, N, -⟩, -, hq⟩ := ct_law (l := l) H i0 i1 i2 i3 (Old.start s) p e ha hc hk s m _ below hf ((Spec.applies_iff_loose hf).mp happ).1 ⟨rfl, State.Warmed39.refl s, rfl, hCH, all0⟩ trivial
  cases hQ
  refine ⟨n, _, h1, h2, h3, hpost _ _ _ _ _ _ ⟨Cond.after_iff.mpr rfl, Cond.after_iff.mpr (eq_i res_at (Term.int_eval (1)) rfl), trivial⟩ ⟨hq.1, hq.2.1, hq.2.2.1, (hq.2.2.2.sift fun y hy => Or.inr (N y hy)).mono (by decide) (by decide)⟩⟩
theorem main_1_1 : Claimed_1_1 := comes_1 fun _ _ _ _ _ _ h hF => ⟨h.1, hF⟩
theorem main_1_2 : Claimed_1_2 := comes_1 fun _ _ _ _ _ _ h hF => ⟨h.2.1, hF⟩
end Jvm.Pilot.@@N@@
namespace Jvm.Pilot.@@N@@
open Jvm Jvm.ClassFile Sem Op Lib Jvm.Free Jvm.Stand Jvm.Pilot.@@N@@.Jvm.D
/-! MADE BY PROGRAM (witnessworld.py) out of the Statement's table words and the real class files: 44 classes; the members and pool entries that the words name. The judged class is class 1, her method 1. -/
namespace start1
open Jvm.ClassFile
def u (s : String) : CpInfo := .utf8 (stringToUtf16 s)
/-- a pool by its gaps: so many unusable entries, then the entry; so many at the end -/
def gap : Nat → List CpInfo → List CpInfo
  | 0, r => r
  | n + 1, r => .unusable :: gap n r
def poolList (es : List (Nat × CpInfo)) (last : Nat) : List CpInfo := es.foldr (fun e r => gap e.1 (e.2 :: r)) (gap last [])
def pool (es : List (Nat × CpInfo)) (last : Nat) : Array CpInfo := ⟨poolList es last⟩
def fileOf (pool : Array CpInfo) (this : Nat) (attrs : Array Attribute := #[]) (ms : Array MethodInfo := #[]) (fl : Nat := 33) (sup : Nat := 0) (ifs : Array Nat := #[]) (fds : Array FieldInfo := #[]) : ClassFile where
  minorVersion := 0
  majorVersion := 65
  constantPool := pool
  accessFlags := fl
  thisClass := this
  superClass := sup
  interfaces := ifs
  fields := fds
  methods := ms
  attributes := attrs
def plain (name : String) (sup : Option ClassId) : Class where
  name := name
  kind := .ordinary
  loader := none
  accessFlags := 33
  super := sup
  interfaces := #[]
  cf := none
  fields := #[]
  methods := #[]
  instanceTypes := #[]
  staticTypes := #[]
  resolved := #[]
  callSites := []
  init := .initialized
  statics := none
  mirror := none

def pool0 : Array CpInfo := pool [(5, u "<init>"), (0, u "()V"), (1, .class_ 10), (1, u "java/lang/Object"), (0, u "getClass"), (0, u "()Ljava/lang/Class;")] 111

def k0c0 : Code := { maxStack := 0, maxLocals := 1, code := object_method_1_code, exceptionTable := #[], attributes := #[] }
def k0m0 : Method := { name := "<init>", desc := "()V", sig := { parameters := [], returnType := none }, accessFlags := 1, code := some k0c0 }
def k0m1 : Method := { name := "getClass", desc := "()Ljava/lang/Class;", sig := { parameters := [], returnType := some (.object "java/lang/Class") }, accessFlags := 273, code := none }
/-- java/lang/Object -/
def k0 : Class := { plain "java/lang/Object" none with
  accessFlags := 33
  interfaces := #[]
  cf := some (fileOf pool0 8 #[] #[{ accessFlags := 1, nameIndex := 5, descriptorIndex := 6, attributes := #[] }, { accessFlags := 273, nameIndex := 11, descriptorIndex := 12, attributes := #[] }] 33 0 #[] #[])
  fields := #[]
  methods := #[k0m0, k0m1]
  instanceTypes := #[]
  staticTypes := #[]
  resolved := Array.replicate 124 none
  statics := none }

def pool1 : Array CpInfo := pool [(2, .class_ 4), (0, .nameAndType 5 6), (0, u "java/lang/Object"), (0, u "<init>"), (0, u "()V"), (0, .class_ 8), (0, u "java/lang/String"), (0, .methodref 7 10), (0, .nameAndType 5 11), (0, u "([C)V"), (0, .class_ 13), (0, u "com/example/gate_to_handlers/gatetohandlers/HttpHeaders"), (0, .methodref 12 3), (0, .class_ 16), (0, u "com/example/gate_to_handlers/gatetohandlers/HttpEntity"), (0, .methodref 15 3), (0, .methodref 15 19), (0, .nameAndType 5 20), (0, u "(Ljava/lang/Object;)V"), (0, .methodref 15 22), (0, .nameAndType 5 23), (0, u "(Ljava/lang/Object;Lcom/example/gate_to_handlers/gatetohandlers/HttpHeaders;)V"), (0, .methodref 15 25), (0, .nameAndType 5 26), (0, u "(Lcom/example/gate_to_handlers/gatetohandlers/HttpHeaders;)V"), (0, .methodref 15 28), (0, .nameAndType 29 30), (0, u "hasBody"), (0, u "()Z"), (0, .methodref 15 32), (0, .nameAndType 33 34), (0, u "getBody"), (0, u "()Ljava/lang/Object;"), (0, .class_ 36), (0, u "com/example/gate_to_handlers/gatetohandlers/HttpEntityHasBodyPinLaw"), (2, u "law"), (0, u "(IIII)Z")] 5

def k1m0 : Method := { name := "<init>", desc := "()V", sig := { parameters := [], returnType := none }, accessFlags := 1, code := none }
def k1c1 : Code := { maxStack := 4, maxLocals := 14, code := code, exceptionTable := #[], attributes := #[] }
def k1m1 : Method := { name := "law", desc := "(IIII)Z", sig := { parameters := [.int, .int, .int, .int], returnType := some .boolean }, accessFlags := 9, code := some k1c1 }
/-- com/example/gate_to_handlers/gatetohandlers/HttpEntityHasBodyPinLaw -/
def k1 : Class := { plain "com/example/gate_to_handlers/gatetohandlers/HttpEntityHasBodyPinLaw" (some 0) with
  accessFlags := 49
  interfaces := #[]
  cf := some (fileOf pool1 35 #[] #[{ accessFlags := 1, nameIndex := 5, descriptorIndex := 6, attributes := #[] }, { accessFlags := 9, nameIndex := 39, descriptorIndex := 40, attributes := #[] }] 49 2 #[] #[])
  fields := #[]
  methods := #[k1m0, k1m1]
  instanceTypes := #[]
  staticTypes := #[]
  resolved := Array.replicate 46 none
  statics := none }

def pool2 : Array CpInfo := pool [(1, .class_ 2), (0, u "java/io/Serializable"), (0, .class_ 4), (0, u "java/lang/Object")] 2

/-- java/io/Serializable -/
def k2 : Class := { plain "java/io/Serializable" (some 0) with
  accessFlags := 1537
  interfaces := #[]
  cf := some (fileOf pool2 1 #[] #[] 1537 3 #[] #[])
  fields := #[]
  methods := #[]
  instanceTypes := #[]
  staticTypes := #[]
  resolved := Array.replicate 7 none
  statics := none }

def pool3 : Array CpInfo := pool [(1, .class_ 2), (0, u "java/lang/Comparable"), (0, .class_ 4), (0, u "java/lang/Object")] 7

/-- java/lang/Comparable -/
def k3 : Class := { plain "java/lang/Comparable" (some 0) with
  accessFlags := 1537
  interfaces := #[]
  cf := some (fileOf pool3 1 #[] #[] 1537 3 #[] #[])
  fields := #[]
  methods := #[]
  instanceTypes := #[]
  staticTypes := #[]
  resolved := Array.replicate 12 none
  statics := none }

def pool4 : Array CpInfo := pool [(2, .class_ 4), (1, u "java/lang/CharSequence"), (42, .class_ 48), (0, u "java/lang/CharSequence$1CodePointIterator"), (10, .class_ 60), (0, u "java/lang/CharSequence$1CharIterator"), (5, .class_ 67), (0, u "java/lang/Object")] 63

/-- java/lang/CharSequence -/
def k4 : Class := { plain "java/lang/CharSequence" (some 0) with
  accessFlags := 1537
  interfaces := #[]
  cf := some (fileOf pool4 2 #[.nestMembers #[47, 59]] #[] 1537 66 #[] #[])
  fields := #[]
  methods := #[]
  instanceTypes := #[]
  staticTypes := #[]
  resolved := Array.replicate 131 none
  statics := none }

def pool5 : Array CpInfo := pool [(1, .class_ 2), (0, u "java/lang/constant/Constable"), (0, .class_ 4), (0, u "java/lang/Object")] 6

/-- java/lang/constant/Constable -/
def k5 : Class := { plain "java/lang/constant/Constable" (some 0) with
  accessFlags := 1537
  interfaces := #[]
  cf := some (fileOf pool5 1 #[] #[] 1537 3 #[] #[])
  fields := #[]
  methods := #[]
  instanceTypes := #[]
  staticTypes := #[]
  resolved := Array.replicate 11 none
  statics := none }

def pool6 : Array CpInfo := pool [(1, .class_ 2), (0, u "java/lang/constant/ConstantDesc"), (0, .class_ 4), (0, u "java/lang/Object")] 32

/-- java/lang/constant/ConstantDesc -/
def k6 : Class := { plain "java/lang/constant/ConstantDesc" (some 0) with
  accessFlags := 1537
  interfaces := #[]
  cf := some (fileOf pool6 1 #[] #[] 1537 3 #[] #[])
  fields := #[]
  methods := #[]
  instanceTypes := #[]
  staticTypes := #[]
  resolved := Array.replicate 37 none
  statics := none }

def pool7 : Array CpInfo := pool [(1, .methodref 2 3), (0, .class_ 4), (0, .nameAndType 5 6), (0, u "java/lang/Object"), (0, u "<init>"), (0, u "()V"), (0, .string 8), (0, u ""), (0, .fieldref 10 11), (0, .class_ 12), (0, .nameAndType 13 14), (0, u "java/lang/String"), (0, u "value"), (0, u "[B"), (0, .fieldref 10 16), (0, .nameAndType 17 18), (0, u "coder"), (0, u "B"), (2, u "hash"), (0, u "I"), (2, u "hashIsZero"), (0, u "Z"), (0, .methodref 10 28), (0, .nameAndType 5 29), (0, u "([CIILjava/lang/Void;)V"), (8, .fieldref 10 39), (0, .nameAndType 40 26), (0, u "COMPACT_STRINGS"), (1, .class_ 44), (1, u "java/lang/StringUTF16"), (0, u "compress"), (1, .methodref 42 48), (0, .nameAndType 49 50), (0, u "coderFromArrayLen"), (0, u "([BI)B"), (126, .methodref 42 178), (0, .nameAndType 45 179), (0, u "([CII)[B"), (395, .class_ 576), (0, u "java/lang/CharSequence"), (22, u "CASE_INSENSITIVE_ORDER"), (0, u "Ljava/util/Comparator;"), (409, u "([C)V"), (90, u "serialPersistentFields"), (0, u "[Ljava/io/ObjectStreamField;"), (0, .class_ 1104), (0, u "java/lang/String$CaseInsensitiveComparator"), (1, .class_ 1107), (0, u "java/io/Serializable"), (0, .class_ 1109), (0, u "java/lang/Comparable"), (0, .class_ 1111), (0, u "java/lang/constant/Constable"), (0, .class_ 1113), (0, u "java/lang/constant/ConstantDesc"), (2, u "serialVersionUID"), (0, u "J"), (3, u "REPL"), (0, u "C"), (2, u "LATIN1"), (1, u "UTF16")] 323

def k7m0 : Method := { name := "<init>", desc := "()V", sig := { parameters := [], returnType := none }, accessFlags := 1, code := none }
def k7c1 : Code := { maxStack := 5, maxLocals := 2, code := jdk_42_method_3_code, exceptionTable := #[], attributes := #[] }
def k7m1 : Method := { name := "<init>", desc := "([C)V", sig := { parameters := [(.array .char)], returnType := none }, accessFlags := 1, code := some k7c1 }
def k7c2 : Code := { maxStack := 4, maxLocals := 6, code := jdk_42_method_149_code, exceptionTable := #[], attributes := #[] }
def k7m2 : Method := { name := "<init>", desc := "([CIILjava/lang/Void;)V", sig := { parameters := [(.array .char), .int, .int, (.object "java/lang/Void")], returnType := none }, accessFlags := 2, code := some k7c2 }
/-- java/lang/String -/
def k7 : Class := { plain "java/lang/String" (some 0) with
  accessFlags := 49
  interfaces := #[2, 3, 4, 5, 6]
  cf := some (fileOf pool7 10 #[.nestMembers #[1103]] #[{ accessFlags := 1, nameIndex := 5, descriptorIndex := 6, attributes := #[] }, { accessFlags := 1, nameIndex := 5, descriptorIndex := 1010, attributes := #[] }, { accessFlags := 2, nameIndex := 5, descriptorIndex := 29, attributes := #[] }] 49 2 #[1106, 1108, 575, 1110, 1112] #[{ accessFlags := 18, nameIndex := 13, descriptorIndex := 14, attributes := #[] }, { accessFlags := 18, nameIndex := 17, descriptorIndex := 18, attributes := #[] }, { accessFlags := 2, nameIndex := 21, descriptorIndex := 22, attributes := #[] }, { accessFlags := 2, nameIndex := 25, descriptorIndex := 26, attributes := #[] }, { accessFlags := 26, nameIndex := 1116, descriptorIndex := 1117, attributes := #[] }, { accessFlags := 24, nameIndex := 40, descriptorIndex := 26, attributes := #[] }, { accessFlags := 26, nameIndex := 1101, descriptorIndex := 1102, attributes := #[] }, { accessFlags := 26, nameIndex := 1121, descriptorIndex := 1122, attributes := #[] }, { accessFlags := 25, nameIndex := 599, descriptorIndex := 600, attributes := #[] }, { accessFlags := 24, nameIndex := 1125, descriptorIndex := 18, attributes := #[] }, { accessFlags := 24, nameIndex := 1127, descriptorIndex := 18, attributes := #[] }])
  fields := #[{ name := "value", type := (.array .byte), accessFlags := 18, slot := 0, constantValue := 0 }, { name := "coder", type := .byte, accessFlags := 18, slot := 1, constantValue := 0 }, { name := "hash", type := .int, accessFlags := 2, slot := 2, constantValue := 0 }, { name := "hashIsZero", type := .boolean, accessFlags := 2, slot := 3, constantValue := 0 }, { name := "serialVersionUID", type := .long, accessFlags := 26, slot := 0, constantValue := 0 }, { name := "COMPACT_STRINGS", type := .boolean, accessFlags := 24, slot := 1, constantValue := 0 }, { name := "serialPersistentFields", type := (.array (.object "java/io/ObjectStreamField")), accessFlags := 26, slot := 2, constantValue := 0 }, { name := "REPL", type := .char, accessFlags := 26, slot := 3, constantValue := 0 }, { name := "CASE_INSENSITIVE_ORDER", type := (.object "java/util/Comparator"), accessFlags := 25, slot := 4, constantValue := 0 }, { name := "LATIN1", type := .byte, accessFlags := 24, slot := 5, constantValue := 0 }, { name := "UTF16", type := .byte, accessFlags := 24, slot := 6, constantValue := 0 }]
  methods := #[k7m0, k7m1, k7m2]
  instanceTypes := #[(.array .byte), .byte, .int, .boolean]
  staticTypes := #[.long, .boolean, (.array (.object "java/io/ObjectStreamField")), .char, (.object "java/util/Comparator"), .byte, .byte]
  resolved := Array.replicate 1451 none
  statics := some 0 }

def pool8 : Array CpInfo := pool [(2, .class_ 4), (1, u "java/util/Map"), (1, u "(Ljava/lang/Object;)Ljava/lang/Object;"), (4, .methodref 12 13), (0, .class_ 14), (0, .nameAndType 15 6), (0, u "java/util/Objects"), (0, u "requireNonNull"), (0, .interfaceMethodref 2 17), (0, .nameAndType 18 19), (0, u "entrySet"), (0, u "()Ljava/util/Set;"), (0, .interfaceMethodref 21 22), (0, .class_ 23), (0, .nameAndType 24 25), (0, u "java/util/Set"), (0, u "iterator"), (0, u "()Ljava/util/Iterator;"), (0, .interfaceMethodref 27 28), (0, .class_ 29), (0, .nameAndType 30 31), (0, u "java/util/Iterator"), (0, u "hasNext"), (0, u "()Z"), (4, .class_ 37), (0, u "java/util/Map$Entry"), (55, .class_ 94), (0, u "java/lang/Object"), (58, u "forEach"), (0, u "(Ljava/util/function/BiConsumer;)V")] 108

def k8m0 : Method := { name := "entrySet", desc := "()Ljava/util/Set;", sig := { parameters := [], returnType := some (.object "java/util/Set") }, accessFlags := 1025, code := none }
def k8c1 : Code := { maxStack := 3, maxLocals := 7, code := jdk_72_method_16_code, exceptionTable := #[{ startPc := 36, endPc := 52, handlerPc := 55, catchType := 44 }], attributes := #[] }
def k8m1 : Method := { name := "forEach", desc := "(Ljava/util/function/BiConsumer;)V", sig := { parameters := [(.object "java/util/function/BiConsumer")], returnType := none }, accessFlags := 1, code := some k8c1 }
/-- java/util/Map -/
def k8 : Class := { plain "java/util/Map" (some 0) with
  accessFlags := 1537
  interfaces := #[]
  cf := some (fileOf pool8 2 #[.nestMembers #[36]] #[{ accessFlags := 1025, nameIndex := 18, descriptorIndex := 19, attributes := #[] }, { accessFlags := 1, nameIndex := 153, descriptorIndex := 154, attributes := #[] }] 1537 93 #[] #[])
  fields := #[]
  methods := #[k8m0, k8m1]
  instanceTypes := #[]
  staticTypes := #[]
  resolved := Array.replicate 263 none
  statics := none }

def pool9 : Array CpInfo := pool [(1, .class_ 2), (0, u "java/util/TreeMap"), (0, .fieldref 4 5), (0, .class_ 6), (0, .nameAndType 7 8), (0, u "java/lang/String"), (0, u "CASE_INSENSITIVE_ORDER"), (0, u "Ljava/util/Comparator;"), (0, .methodref 1 10), (0, .nameAndType 11 12), (0, u "<init>"), (0, u "(Ljava/util/Comparator;)V"), (0, .methodref 14 15), (0, .class_ 16), (0, .nameAndType 11 17), (0, u "com/example/gate_to_handlers/gatetohandlers/HttpHeaders"), (0, u "(Ljava/util/Map;)V"), (0, .methodref 19 20), (0, .class_ 21), (0, .nameAndType 11 22), (0, u "java/lang/Object"), (0, u "()V"), (0, .fieldref 14 24), (0, .nameAndType 25 26), (0, u "fields"), (0, u "Ljava/util/Map;"), (0, .invokeDynamic 0 28), (0, .nameAndType 29 30), (0, u "accept"), (0, u "(Ljava/util/Map;)Ljava/util/function/BiConsumer;"), (0, .methodref 14 32), (0, .nameAndType 33 34), (0, u "forEach"), (0, u "(Ljava/util/function/BiConsumer;)V"), (0, .methodref 36 37), (0, .class_ 38), (0, .nameAndType 39 40), (0, u "java/util/Collections"), (0, u "unmodifiableMap"), (0, u "(Ljava/util/Map;)Ljava/util/Map;"), (49, .class_ 92), (1, u "com/example/gate_to_handlers/gatetohandlers/HttpHeaders$ElementTest"), (6, .class_ 101), (1, u "java/util/Map"), (114, u "()Ljava/util/Set;"), (4, .interfaceMethodref 99 222), (0, .nameAndType 223 216), (0, u "entrySet"), (67, u "ACCEPT"), (0, u "Ljava/lang/String;"), (3, u "ACCESS_CONTROL_ALLOW_CREDENTIALS"), (2, u "ACCESS_CONTROL_ALLOW_HEADERS"), (2, u "ACCESS_CONTROL_ALLOW_METHODS"), (2, u "ACCESS_CONTROL_ALLOW_ORIGIN"), (2, u "ACCESS_CONTROL_EXPOSE_HEADERS"), (2, u "ACCESS_CONTROL_MAX_AGE"), (2, u "ACCESS_CONTROL_REQUEST_HEADERS"), (2, u "ACCESS_CONTROL_REQUEST_METHOD"), (2, u "ALLOW"), (2, u "AUTHORIZATION"), (2, u "CACHE_CONTROL"), (2, u "CONTENT_DISPOSITION"), (2, u "CONTENT_LENGTH"), (2, u "CONTENT_TYPE"), (0, u "COOKIE"), (2, u "ETAG"), (2, u "IF_NONE_MATCH"), (2, u "LAST_MODIFIED"), (2, u "LOCATION"), (0, u "ORIGIN"), (2, u "SET_COOKIE"), (2, u "VARY"), (7, u "readOnly"), (0, u "(Lcom/example/gate_to_handlers/gatetohandlers/HttpHeaders;)Lcom/example/gate_to_handlers/gatetohandlers/HttpHeaders;"), (7, u "(Ljava/lang/String;Ljava/util/List;)V"), (28, u "lambda$readOnly$0"), (0, u "(Ljava/util/Map;Ljava/lang/String;Ljava/util/List;)V"), (5, .methodType 409), (0, u "(Ljava/lang/Object;Ljava/lang/Object;)V"), (0, .methodHandle 6 411), (0, .methodref 14 412), (0, .nameAndType 401 402), (0, .methodType 372), (33, .methodHandle 6 448), (0, .methodref 449 450), (0, .class_ 451), (0, .nameAndType 452 453), (0, u "java/lang/invoke/LambdaMetafactory"), (0, u "metafactory"), (0, u "(Ljava/lang/invoke/MethodHandles$Lookup;Ljava/lang/String;Ljava/lang/invoke/MethodType;Ljava/lang/invoke/MethodType;Ljava/lang/invoke/MethodHandle;Ljava/lang/invoke/MethodType;)Ljava/lang/invoke/CallSite;")] 14

def k9c0 : Code := { maxStack := 4, maxLocals := 1, code := prog_58_method_1_code, exceptionTable := #[], attributes := #[] }
def k9m0 : Method := { name := "<init>", desc := "()V", sig := { parameters := [], returnType := none }, accessFlags := 1, code := some k9c0 }
def k9c1 : Code := { maxStack := 2, maxLocals := 2, code := prog_58_method_2_code, exceptionTable := #[], attributes := #[] }
def k9m1 : Method := { name := "<init>", desc := "(Ljava/util/Map;)V", sig := { parameters := [(.object "java/util/Map")], returnType := none }, accessFlags := 2, code := some k9c1 }
def k9c2 : Code := { maxStack := 3, maxLocals := 2, code := prog_58_method_3_code, exceptionTable := #[], attributes := #[] }
def k9m2 : Method := { name := "readOnly", desc := "(Lcom/example/gate_to_handlers/gatetohandlers/HttpHeaders;)Lcom/example/gate_to_handlers/gatetohandlers/HttpHeaders;", sig := { parameters := [(.object "com/example/gate_to_handlers/gatetohandlers/HttpHeaders")], returnType := some (.object "com/example/gate_to_handlers/gatetohandlers/HttpHeaders") }, accessFlags := 8, code := some k9c2 }
def k9c3 : Code := { maxStack := 1, maxLocals := 1, code := prog_58_method_26_code, exceptionTable := #[], attributes := #[] }
def k9m3 : Method := { name := "entrySet", desc := "()Ljava/util/Set;", sig := { parameters := [], returnType := some (.object "java/util/Set") }, accessFlags := 1, code := some k9c3 }
def k9c4 : Code := { maxStack := 3, maxLocals := 3, code := ⟨#[0x2a, 0x2b, 0x2c, 0xb8, 0x01, 0x1f, 0xb9, 0x00, 0x81, 0x03, 0x00, 0x57, 0xb1]⟩, exceptionTable := #[], attributes := #[] }
def k9m4 : Method := { name := "lambda$readOnly$0", desc := "(Ljava/util/Map;Ljava/lang/String;Ljava/util/List;)V", sig := { parameters := [(.object "java/util/Map"), (.object "java/lang/String"), (.object "java/util/List")], returnType := none }, accessFlags := 4106, code := some k9c4 }
/-- com/example/gate_to_handlers/gatetohandlers/HttpHeaders -/
def k9 : Class := { plain "com/example/gate_to_handlers/gatetohandlers/HttpHeaders" (some 0) with
  accessFlags := 49
  interfaces := #[8]
  cf := some (fileOf pool9 14 #[.nestMembers #[90], .bootstrapMethods #[⟨447, #[408, 410, 413]⟩, ⟨0, #[]⟩, ⟨0, #[]⟩, ⟨0, #[]⟩, ⟨0, #[]⟩, ⟨0, #[]⟩, ⟨0, #[]⟩, ⟨0, #[]⟩, ⟨0, #[]⟩, ⟨0, #[]⟩]] #[{ accessFlags := 1, nameIndex := 11, descriptorIndex := 22, attributes := #[] }, { accessFlags := 2, nameIndex := 11, descriptorIndex := 17, attributes := #[] }, { accessFlags := 8, nameIndex := 363, descriptorIndex := 364, attributes := #[] }, { accessFlags := 1, nameIndex := 223, descriptorIndex := 216, attributes := #[] }, { accessFlags := 4106, nameIndex := 401, descriptorIndex := 402, attributes := #[] }] 49 19 #[99] #[{ accessFlags := 25, nameIndex := 291, descriptorIndex := 292, attributes := #[] }, { accessFlags := 25, nameIndex := 296, descriptorIndex := 292, attributes := #[] }, { accessFlags := 25, nameIndex := 299, descriptorIndex := 292, attributes := #[] }, { accessFlags := 25, nameIndex := 302, descriptorIndex := 292, attributes := #[] }, { accessFlags := 25, nameIndex := 305, descriptorIndex := 292, attributes := #[] }, { accessFlags := 25, nameIndex := 308, descriptorIndex := 292, attributes := #[] }, { accessFlags := 25, nameIndex := 311, descriptorIndex := 292, attributes := #[] }, { accessFlags := 25, nameIndex := 314, descriptorIndex := 292, attributes := #[] }, { accessFlags := 25, nameIndex := 317, descriptorIndex := 292, attributes := #[] }, { accessFlags := 25, nameIndex := 320, descriptorIndex := 292, attributes := #[] }, { accessFlags := 25, nameIndex := 323, descriptorIndex := 292, attributes := #[] }, { accessFlags := 25, nameIndex := 326, descriptorIndex := 292, attributes := #[] }, { accessFlags := 25, nameIndex := 329, descriptorIndex := 292, attributes := #[] }, { accessFlags := 25, nameIndex := 332, descriptorIndex := 292, attributes := #[] }, { accessFlags := 25, nameIndex := 335, descriptorIndex := 292, attributes := #[] }, { accessFlags := 25, nameIndex := 336, descriptorIndex := 292, attributes := #[] }, { accessFlags := 25, nameIndex := 339, descriptorIndex := 292, attributes := #[] }, { accessFlags := 25, nameIndex := 342, descriptorIndex := 292, attributes := #[] }, { accessFlags := 25, nameIndex := 345, descriptorIndex := 292, attributes := #[] }, { accessFlags := 25, nameIndex := 348, descriptorIndex := 292, attributes := #[] }, { accessFlags := 25, nameIndex := 349, descriptorIndex := 292, attributes := #[] }, { accessFlags := 25, nameIndex := 352, descriptorIndex := 292, attributes := #[] }, { accessFlags := 25, nameIndex := 355, descriptorIndex := 292, attributes := #[] }, { accessFlags := 18, nameIndex := 25, descriptorIndex := 26, attributes := #[] }])
  fields := #[{ name := "ACCEPT", type := (.object "java/lang/String"), accessFlags := 25, slot := 0, constantValue := 0 }, { name := "ACCESS_CONTROL_ALLOW_CREDENTIALS", type := (.object "java/lang/String"), accessFlags := 25, slot := 1, constantValue := 0 }, { name := "ACCESS_CONTROL_ALLOW_HEADERS", type := (.object "java/lang/String"), accessFlags := 25, slot := 2, constantValue := 0 }, { name := "ACCESS_CONTROL_ALLOW_METHODS", type := (.object "java/lang/String"), accessFlags := 25, slot := 3, constantValue := 0 }, { name := "ACCESS_CONTROL_ALLOW_ORIGIN", type := (.object "java/lang/String"), accessFlags := 25, slot := 4, constantValue := 0 }, { name := "ACCESS_CONTROL_EXPOSE_HEADERS", type := (.object "java/lang/String"), accessFlags := 25, slot := 5, constantValue := 0 }, { name := "ACCESS_CONTROL_MAX_AGE", type := (.object "java/lang/String"), accessFlags := 25, slot := 6, constantValue := 0 }, { name := "ACCESS_CONTROL_REQUEST_HEADERS", type := (.object "java/lang/String"), accessFlags := 25, slot := 7, constantValue := 0 }, { name := "ACCESS_CONTROL_REQUEST_METHOD", type := (.object "java/lang/String"), accessFlags := 25, slot := 8, constantValue := 0 }, { name := "ALLOW", type := (.object "java/lang/String"), accessFlags := 25, slot := 9, constantValue := 0 }, { name := "AUTHORIZATION", type := (.object "java/lang/String"), accessFlags := 25, slot := 10, constantValue := 0 }, { name := "CACHE_CONTROL", type := (.object "java/lang/String"), accessFlags := 25, slot := 11, constantValue := 0 }, { name := "CONTENT_DISPOSITION", type := (.object "java/lang/String"), accessFlags := 25, slot := 12, constantValue := 0 }, { name := "CONTENT_LENGTH", type := (.object "java/lang/String"), accessFlags := 25, slot := 13, constantValue := 0 }, { name := "CONTENT_TYPE", type := (.object "java/lang/String"), accessFlags := 25, slot := 14, constantValue := 0 }, { name := "COOKIE", type := (.object "java/lang/String"), accessFlags := 25, slot := 15, constantValue := 0 }, { name := "ETAG", type := (.object "java/lang/String"), accessFlags := 25, slot := 16, constantValue := 0 }, { name := "IF_NONE_MATCH", type := (.object "java/lang/String"), accessFlags := 25, slot := 17, constantValue := 0 }, { name := "LAST_MODIFIED", type := (.object "java/lang/String"), accessFlags := 25, slot := 18, constantValue := 0 }, { name := "LOCATION", type := (.object "java/lang/String"), accessFlags := 25, slot := 19, constantValue := 0 }, { name := "ORIGIN", type := (.object "java/lang/String"), accessFlags := 25, slot := 20, constantValue := 0 }, { name := "SET_COOKIE", type := (.object "java/lang/String"), accessFlags := 25, slot := 21, constantValue := 0 }, { name := "VARY", type := (.object "java/lang/String"), accessFlags := 25, slot := 22, constantValue := 0 }, { name := "fields", type := (.object "java/util/Map"), accessFlags := 18, slot := 0, constantValue := 0 }]
  methods := #[k9m0, k9m1, k9m2, k9m3, k9m4]
  instanceTypes := #[(.object "java/util/Map")]
  staticTypes := #[(.object "java/lang/String"), (.object "java/lang/String"), (.object "java/lang/String"), (.object "java/lang/String"), (.object "java/lang/String"), (.object "java/lang/String"), (.object "java/lang/String"), (.object "java/lang/String"), (.object "java/lang/String"), (.object "java/lang/String"), (.object "java/lang/String"), (.object "java/lang/String"), (.object "java/lang/String"), (.object "java/lang/String"), (.object "java/lang/String"), (.object "java/lang/String"), (.object "java/lang/String"), (.object "java/lang/String"), (.object "java/lang/String"), (.object "java/lang/String"), (.object "java/lang/String"), (.object "java/lang/String"), (.object "java/lang/String")]
  resolved := Array.replicate 468 none
  callSites := [(2, 13, .makes 43)]
  statics := none }

def pool10 : Array CpInfo := pool [(1, .methodref 2 3), (0, .class_ 4), (0, .nameAndType 5 6), (0, u "java/lang/Object"), (0, u "<init>"), (0, u "()V"), (1, .class_ 10), (1, u "java/util/AbstractMap"), (42, .class_ 54), (0, u "java/util/Map"), (9, u "keySet"), (0, u "Ljava/util/Set;"), (0, .class_ 67), (0, u "java/util/AbstractMap$1"), (5, u "values"), (0, u "Ljava/util/Collection;"), (0, .class_ 76), (0, u "java/util/AbstractMap$2"), (104, .class_ 182), (0, u "java/util/AbstractMap$ViewCollection"), (0, .class_ 184), (0, u "java/util/AbstractMap$SimpleImmutableEntry"), (0, .class_ 186), (0, u "java/util/AbstractMap$SimpleEntry"), (0, .class_ 188), (0, u "java/util/AbstractMap$2$1"), (0, .class_ 190), (0, u "java/util/AbstractMap$1$1")] 5

def k10c0 : Code := { maxStack := 1, maxLocals := 1, code := jdk_71_method_1_code, exceptionTable := #[], attributes := #[] }
def k10m0 : Method := { name := "<init>", desc := "()V", sig := { parameters := [], returnType := none }, accessFlags := 4, code := some k10c0 }
/-- java/util/AbstractMap -/
def k10 : Class := { plain "java/util/AbstractMap" (some 0) with
  accessFlags := 1057
  interfaces := #[8]
  cf := some (fileOf pool10 8 #[.nestMembers #[181, 183, 185, 75, 187, 66, 189]] #[{ accessFlags := 4, nameIndex := 5, descriptorIndex := 6, attributes := #[] }] 1057 2 #[53] #[{ accessFlags := 128, nameIndex := 64, descriptorIndex := 65, attributes := #[] }, { accessFlags := 128, nameIndex := 73, descriptorIndex := 74, attributes := #[] }])
  fields := #[{ name := "keySet", type := (.object "java/util/Set"), accessFlags := 128, slot := 0, constantValue := 0 }, { name := "values", type := (.object "java/util/Collection"), accessFlags := 128, slot := 1, constantValue := 0 }]
  methods := #[k10m0]
  instanceTypes := #[(.object "java/util/Set"), (.object "java/util/Collection")]
  staticTypes := #[]
  resolved := Array.replicate 196 none
  statics := none }

def pool11 : Array CpInfo := pool [(2, .class_ 4), (1, u "java/util/SequencedMap"), (38, .class_ 44), (0, u "java/util/SequencedMap$1SeqKeySet"), (3, .class_ 49), (0, u "java/util/SequencedMap$1SeqValues"), (1, .class_ 52), (0, u "java/util/SequencedMap$1SeqEntrySet"), (1, .class_ 55), (0, u "java/lang/Object"), (0, .class_ 57), (0, u "java/util/Map")] 48

/-- java/util/SequencedMap -/
def k11 : Class := { plain "java/util/SequencedMap" (some 0) with
  accessFlags := 1537
  interfaces := #[8]
  cf := some (fileOf pool11 2 #[.nestMembers #[51, 48, 43]] #[] 1537 54 #[56] #[])
  fields := #[]
  methods := #[]
  instanceTypes := #[]
  staticTypes := #[]
  resolved := Array.replicate 106 none
  statics := none }

def pool12 : Array CpInfo := pool [(14, .class_ 16), (1, u "java/util/SortedMap"), (2, .class_ 20), (0, u "java/lang/Object"), (0, .class_ 22), (0, u "java/util/SequencedMap")] 50

/-- java/util/SortedMap -/
def k12 : Class := { plain "java/util/SortedMap" (some 0) with
  accessFlags := 1537
  interfaces := #[11]
  cf := some (fileOf pool12 14 #[] #[] 1537 19 #[21] #[])
  fields := #[]
  methods := #[]
  instanceTypes := #[]
  staticTypes := #[]
  resolved := Array.replicate 73 none
  statics := none }

def pool13 : Array CpInfo := pool [(2, .class_ 4), (1, u "java/util/NavigableMap"), (5, .class_ 11), (0, u "java/lang/Object"), (0, .class_ 13), (0, u "java/util/SortedMap")] 53

/-- java/util/NavigableMap -/
def k13 : Class := { plain "java/util/NavigableMap" (some 0) with
  accessFlags := 1537
  interfaces := #[12]
  cf := some (fileOf pool13 2 #[] #[] 1537 10 #[12] #[])
  fields := #[]
  methods := #[]
  instanceTypes := #[]
  staticTypes := #[]
  resolved := Array.replicate 67 none
  statics := none }

def pool14 : Array CpInfo := pool [(1, .class_ 2), (0, u "java/lang/Cloneable"), (0, .class_ 4), (0, u "java/lang/Object")] 2

/-- java/lang/Cloneable -/
def k14 : Class := { plain "java/lang/Cloneable" (some 0) with
  accessFlags := 1537
  interfaces := #[]
  cf := some (fileOf pool14 1 #[] #[] 1537 3 #[] #[])
  fields := #[]
  methods := #[]
  instanceTypes := #[]
  staticTypes := #[]
  resolved := Array.replicate 7 none
  statics := none }

def pool15 : Array CpInfo := pool [(1, .methodref 2 3), (0, .class_ 4), (0, .nameAndType 5 6), (0, u "java/util/AbstractMap"), (0, u "<init>"), (0, u "()V"), (0, .fieldref 8 9), (0, .class_ 10), (0, .nameAndType 11 12), (0, u "java/util/TreeMap"), (0, u "size"), (0, u "I"), (0, .fieldref 8 14), (0, .nameAndType 15 12), (0, u "modCount"), (0, .fieldref 8 17), (0, .nameAndType 18 19), (0, u "comparator"), (0, u "Ljava/util/Comparator;"), (14, u "entrySet"), (0, u "()Ljava/util/Set;"), (20, u "getFirstEntry"), (0, u "()Ljava/util/TreeMap$Entry;"), (1, .class_ 61), (1, u "java/util/TreeMap$Entry"), (1, u "Ljava/lang/Object;"), (37, .fieldref 8 102), (0, .nameAndType 103 104), (0, u "root"), (0, u "Ljava/util/TreeMap$Entry;"), (83, .fieldref 8 189), (0, .nameAndType 34 190), (0, u "Ljava/util/TreeMap$EntrySet;"), (2, u "navigableKeySet"), (0, u "Ljava/util/TreeMap$KeySet;"), (2, u "descendingMap"), (0, u "Ljava/util/NavigableMap;"), (23, .class_ 223), (0, u "java/util/TreeMap$KeySet"), (7, .class_ 232), (0, u "java/util/NavigableMap"), (4, .class_ 238), (0, u "java/util/TreeMap$Values"), (1, .nameAndType 5 241), (0, u "(Ljava/util/TreeMap;)V"), (0, .class_ 243), (0, u "java/util/TreeMap$EntrySet"), (0, .methodref 242 240), (0, .class_ 246), (0, u "java/util/TreeMap$DescendingSubMap"), (3, .class_ 251), (0, u "java/util/TreeMap$AscendingSubMap"), (17, .class_ 270), (0, u "java/util/TreeMap$KeyIterator"), (3, .class_ 275), (0, u "java/util/TreeMap$DescendingKeyIterator"), (17, u "Z"), (94, .class_ 389), (0, u "java/util/TreeMap$NavigableSubMap"), (1, .class_ 392), (0, u "java/util/TreeMap$KeySpliterator"), (3, .class_ 397), (0, u "java/util/TreeMap$DescendingKeySpliterator"), (4, u "UNBOUNDED"), (0, .class_ 404), (0, u "java/lang/Cloneable"), (0, .class_ 406), (0, u "java/io/Serializable"), (6, u "RED"), (2, u "BLACK"), (1, u "serialVersionUID"), (0, u "J"), (8, u "(Ljava/util/Comparator;)V"), (205, .class_ 635), (0, u "java/util/TreeMap$EntrySpliterator"), (0, .class_ 637), (0, u "java/util/TreeMap$ValueSpliterator"), (0, .class_ 639), (0, u "java/util/TreeMap$TreeMapSpliterator"), (0, .class_ 641), (0, u "java/util/TreeMap$SubMap"), (0, .class_ 643), (0, u "java/util/TreeMap$DescendingSubMap$DescendingEntrySetView"), (0, .class_ 645), (0, u "java/util/TreeMap$AscendingSubMap$AscendingEntrySetView"), (0, .class_ 647), (0, u "java/util/TreeMap$NavigableSubMap$DescendingSubMapKeyIterator"), (0, .class_ 649), (0, u "java/util/TreeMap$NavigableSubMap$SubMapKeyIterator"), (0, .class_ 651), (0, u "java/util/TreeMap$NavigableSubMap$DescendingSubMapEntryIterator"), (0, .class_ 653), (0, u "java/util/TreeMap$NavigableSubMap$SubMapEntryIterator"), (0, .class_ 655), (0, u "java/util/TreeMap$NavigableSubMap$SubMapIterator"), (0, .class_ 657), (0, u "java/util/TreeMap$NavigableSubMap$EntrySetView"), (0, .class_ 659), (0, u "java/util/TreeMap$ValueIterator"), (0, .class_ 661), (0, u "java/util/TreeMap$EntryIterator"), (0, .class_ 663), (0, u "java/util/TreeMap$PrivateEntryIterator")] 28

def k15m0 : Method := { name := "<init>", desc := "()V", sig := { parameters := [], returnType := none }, accessFlags := 1, code := none }
def k15c1 : Code := { maxStack := 2, maxLocals := 2, code := jdk_2729_method_2_code, exceptionTable := #[], attributes := #[] }
def k15m1 : Method := { name := "<init>", desc := "(Ljava/util/Comparator;)V", sig := { parameters := [(.object "java/util/Comparator")], returnType := none }, accessFlags := 1, code := some k15c1 }
def k15c2 : Code := { maxStack := 4, maxLocals := 2, code := jdk_2729_method_53_code, exceptionTable := #[], attributes := #[] }
def k15m2 : Method := { name := "entrySet", desc := "()Ljava/util/Set;", sig := { parameters := [], returnType := some (.object "java/util/Set") }, accessFlags := 1, code := some k15c2 }
def k15c3 : Code := { maxStack := 1, maxLocals := 2, code := jdk_2729_method_72_code, exceptionTable := #[], attributes := #[] }
def k15m3 : Method := { name := "getFirstEntry", desc := "()Ljava/util/TreeMap$Entry;", sig := { parameters := [], returnType := some (.object "java/util/TreeMap$Entry") }, accessFlags := 16, code := some k15c3 }
/-- java/util/TreeMap -/
def k15 : Class := { plain "java/util/TreeMap" (some 10) with
  accessFlags := 33
  interfaces := #[13, 14, 2]
  cf := some (fileOf pool15 8 #[.nestMembers #[634, 636, 396, 391, 638, 59, 640, 245, 642, 250, 644, 388, 646, 648, 650, 652, 654, 656, 274, 269, 658, 660, 662, 222, 242, 237]] #[{ accessFlags := 1, nameIndex := 5, descriptorIndex := 6, attributes := #[] }, { accessFlags := 1, nameIndex := 5, descriptorIndex := 428, attributes := #[] }, { accessFlags := 1, nameIndex := 34, descriptorIndex := 35, attributes := #[] }, { accessFlags := 16, nameIndex := 56, descriptorIndex := 57, attributes := #[] }] 33 2 #[231, 403, 405] #[{ accessFlags := 18, nameIndex := 18, descriptorIndex := 19, attributes := #[] }, { accessFlags := 130, nameIndex := 103, descriptorIndex := 104, attributes := #[] }, { accessFlags := 130, nameIndex := 11, descriptorIndex := 12, attributes := #[] }, { accessFlags := 130, nameIndex := 15, descriptorIndex := 12, attributes := #[] }, { accessFlags := 130, nameIndex := 34, descriptorIndex := 190, attributes := #[] }, { accessFlags := 130, nameIndex := 193, descriptorIndex := 194, attributes := #[] }, { accessFlags := 130, nameIndex := 197, descriptorIndex := 198, attributes := #[] }, { accessFlags := 26, nameIndex := 402, descriptorIndex := 63, attributes := #[] }, { accessFlags := 26, nameIndex := 413, descriptorIndex := 293, attributes := #[] }, { accessFlags := 26, nameIndex := 416, descriptorIndex := 293, attributes := #[] }, { accessFlags := 26, nameIndex := 418, descriptorIndex := 419, attributes := #[] }])
  fields := #[{ name := "comparator", type := (.object "java/util/Comparator"), accessFlags := 18, slot := 2, constantValue := 0 }, { name := "root", type := (.object "java/util/TreeMap$Entry"), accessFlags := 130, slot := 3, constantValue := 0 }, { name := "size", type := .int, accessFlags := 130, slot := 4, constantValue := 0 }, { name := "modCount", type := .int, accessFlags := 130, slot := 5, constantValue := 0 }, { name := "entrySet", type := (.object "java/util/TreeMap$EntrySet"), accessFlags := 130, slot := 6, constantValue := 0 }, { name := "navigableKeySet", type := (.object "java/util/TreeMap$KeySet"), accessFlags := 130, slot := 7, constantValue := 0 }, { name := "descendingMap", type := (.object "java/util/NavigableMap"), accessFlags := 130, slot := 8, constantValue := 0 }, { name := "UNBOUNDED", type := (.object "java/lang/Object"), accessFlags := 26, slot := 0, constantValue := 0 }, { name := "RED", type := .boolean, accessFlags := 26, slot := 1, constantValue := 0 }, { name := "BLACK", type := .boolean, accessFlags := 26, slot := 2, constantValue := 0 }, { name := "serialVersionUID", type := .long, accessFlags := 26, slot := 3, constantValue := 0 }]
  methods := #[k15m0, k15m1, k15m2, k15m3]
  instanceTypes := #[(.object "java/util/Set"), (.object "java/util/Collection"), (.object "java/util/Comparator"), (.object "java/util/TreeMap$Entry"), .int, .int, (.object "java/util/TreeMap$EntrySet"), (.object "java/util/TreeMap$KeySet"), (.object "java/util/NavigableMap")]
  staticTypes := #[(.object "java/lang/Object"), .boolean, .boolean, .long]
  resolved := Array.replicate 692 none
  mirror := some 2
  statics := none }

def pool16 : Array CpInfo := pool [(1, .methodref 2 3), (0, .class_ 4), (0, .nameAndType 5 6), (0, u "com/example/gate_to_handlers/gatetohandlers/HttpEntity"), (0, u "<init>"), (0, u "(Ljava/lang/Object;Lcom/example/gate_to_handlers/gatetohandlers/HttpHeaders;)V"), (0, .methodref 8 9), (0, .class_ 10), (0, .nameAndType 5 11), (0, u "java/lang/Object"), (0, u "()V"), (0, .fieldref 2 13), (0, .nameAndType 14 15), (0, u "body"), (0, u "Ljava/lang/Object;"), (0, .class_ 17), (0, u "com/example/gate_to_handlers/gatetohandlers/HttpHeaders"), (0, .methodref 16 9), (0, .methodref 16 20), (0, .nameAndType 21 22), (0, u "readOnly"), (0, u "(Lcom/example/gate_to_handlers/gatetohandlers/HttpHeaders;)Lcom/example/gate_to_handlers/gatetohandlers/HttpHeaders;"), (0, .fieldref 2 24), (0, .nameAndType 25 26), (0, u "headers"), (0, u "Lcom/example/gate_to_handlers/gatetohandlers/HttpHeaders;"), (35, u "EMPTY"), (0, u "Lcom/example/gate_to_handlers/gatetohandlers/HttpEntity;"), (5, u "(Ljava/lang/Object;)V"), (1, u "(Lcom/example/gate_to_handlers/gatetohandlers/HttpHeaders;)V"), (4, u "getBody"), (0, u "()Ljava/lang/Object;"), (1, u "hasBody"), (0, u "()Z")] 25

def k16c0 : Code := { maxStack := 3, maxLocals := 1, code := prog_56_method_1_code, exceptionTable := #[], attributes := #[] }
def k16m0 : Method := { name := "<init>", desc := "()V", sig := { parameters := [], returnType := none }, accessFlags := 1, code := some k16c0 }
def k16c1 : Code := { maxStack := 3, maxLocals := 2, code := prog_56_method_2_code, exceptionTable := #[], attributes := #[] }
def k16m1 : Method := { name := "<init>", desc := "(Ljava/lang/Object;)V", sig := { parameters := [(.object "java/lang/Object")], returnType := none }, accessFlags := 1, code := some k16c1 }
def k16c2 : Code := { maxStack := 3, maxLocals := 2, code := prog_56_method_3_code, exceptionTable := #[], attributes := #[] }
def k16m2 : Method := { name := "<init>", desc := "(Lcom/example/gate_to_handlers/gatetohandlers/HttpHeaders;)V", sig := { parameters := [(.object "com/example/gate_to_handlers/gatetohandlers/HttpHeaders")], returnType := none }, accessFlags := 1, code := some k16c2 }
def k16c3 : Code := { maxStack := 3, maxLocals := 3, code := prog_56_method_4_code, exceptionTable := #[], attributes := #[] }
def k16m3 : Method := { name := "<init>", desc := "(Ljava/lang/Object;Lcom/example/gate_to_handlers/gatetohandlers/HttpHeaders;)V", sig := { parameters := [(.object "java/lang/Object"), (.object "com/example/gate_to_handlers/gatetohandlers/HttpHeaders")], returnType := none }, accessFlags := 1, code := some k16c3 }
def k16c4 : Code := { maxStack := 1, maxLocals := 1, code := prog_56_method_6_code, exceptionTable := #[], attributes := #[] }
def k16m4 : Method := { name := "getBody", desc := "()Ljava/lang/Object;", sig := { parameters := [], returnType := some (.object "java/lang/Object") }, accessFlags := 1, code := some k16c4 }
def k16c5 : Code := { maxStack := 1, maxLocals := 1, code := prog_56_method_7_code, exceptionTable := #[], attributes := #[] }
def k16m5 : Method := { name := "hasBody", desc := "()Z", sig := { parameters := [], returnType := some .boolean }, accessFlags := 1, code := some k16c5 }
/-- com/example/gate_to_handlers/gatetohandlers/HttpEntity -/
def k16 : Class := { plain "com/example/gate_to_handlers/gatetohandlers/HttpEntity" (some 0) with
  accessFlags := 33
  interfaces := #[]
  cf := some (fileOf pool16 2 #[] #[{ accessFlags := 1, nameIndex := 5, descriptorIndex := 11, attributes := #[] }, { accessFlags := 1, nameIndex := 5, descriptorIndex := 69, attributes := #[] }, { accessFlags := 1, nameIndex := 5, descriptorIndex := 71, attributes := #[] }, { accessFlags := 1, nameIndex := 5, descriptorIndex := 6, attributes := #[] }, { accessFlags := 1, nameIndex := 76, descriptorIndex := 77, attributes := #[] }, { accessFlags := 1, nameIndex := 79, descriptorIndex := 80, attributes := #[] }] 33 8 #[] #[{ accessFlags := 25, nameIndex := 62, descriptorIndex := 63, attributes := #[] }, { accessFlags := 18, nameIndex := 25, descriptorIndex := 26, attributes := #[] }, { accessFlags := 18, nameIndex := 14, descriptorIndex := 15, attributes := #[] }])
  fields := #[{ name := "EMPTY", type := (.object "com/example/gate_to_handlers/gatetohandlers/HttpEntity"), accessFlags := 25, slot := 0, constantValue := 0 }, { name := "headers", type := (.object "com/example/gate_to_handlers/gatetohandlers/HttpHeaders"), accessFlags := 18, slot := 0, constantValue := 0 }, { name := "body", type := (.object "java/lang/Object"), accessFlags := 18, slot := 1, constantValue := 0 }]
  methods := #[k16m0, k16m1, k16m2, k16m3, k16m4, k16m5]
  instanceTypes := #[(.object "com/example/gate_to_handlers/gatetohandlers/HttpHeaders"), (.object "java/lang/Object")]
  staticTypes := #[(.object "com/example/gate_to_handlers/gatetohandlers/HttpEntity")]
  resolved := Array.replicate 106 none
  statics := none }

def pool17 : Array CpInfo := pool [(9, u "accept"), (2, .class_ 14), (1, u "java/util/function/BiConsumer"), (0, u "(Ljava/lang/Object;Ljava/lang/Object;)V"), (0, .class_ 17), (0, u "java/lang/Object")] 42

def k17m0 : Method := { name := "accept", desc := "(Ljava/lang/Object;Ljava/lang/Object;)V", sig := { parameters := [(.object "java/lang/Object"), (.object "java/lang/Object")], returnType := none }, accessFlags := 1025, code := none }
/-- java/util/function/BiConsumer -/
def k17 : Class := { plain "java/util/function/BiConsumer" (some 0) with
  accessFlags := 1537
  interfaces := #[]
  cf := some (fileOf pool17 12 #[] #[{ accessFlags := 1025, nameIndex := 9, descriptorIndex := 15, attributes := #[] }] 1537 16 #[] #[])
  fields := #[]
  methods := #[k17m0]
  instanceTypes := #[]
  staticTypes := #[]
  resolved := Array.replicate 60 none
  statics := none }

def pool18 : Array CpInfo := pool [(2, .class_ 4), (1, u "java/lang/Object"), (0, u "<init>"), (0, u "()V"), (35, .class_ 44), (1, u "java/util/Objects"), (0, u "requireNonNull"), (0, u "(Ljava/lang/Object;)Ljava/lang/Object;")] 137

def k18m0 : Method := { name := "<init>", desc := "()V", sig := { parameters := [], returnType := none }, accessFlags := 2, code := none }
def k18c1 : Code := { maxStack := 2, maxLocals := 1, code := jdk_31_method_10_code, exceptionTable := #[], attributes := #[] }
def k18m1 : Method := { name := "requireNonNull", desc := "(Ljava/lang/Object;)Ljava/lang/Object;", sig := { parameters := [(.object "java/lang/Object")], returnType := some (.object "java/lang/Object") }, accessFlags := 9, code := some k18c1 }
/-- java/util/Objects -/
def k18 : Class := { plain "java/util/Objects" (some 0) with
  accessFlags := 49
  interfaces := #[]
  cf := some (fileOf pool18 42 #[] #[{ accessFlags := 2, nameIndex := 5, descriptorIndex := 6, attributes := #[] }, { accessFlags := 9, nameIndex := 45, descriptorIndex := 46, attributes := #[] }] 49 2 #[] #[])
  fields := #[]
  methods := #[k18m0, k18m1]
  instanceTypes := #[]
  staticTypes := #[]
  resolved := Array.replicate 184 none
  statics := none }

def pool19 : Array CpInfo := pool [(8, .class_ 10), (1, u "java/lang/Iterable"), (24, .class_ 36), (0, u "java/lang/Object")] 25

/-- java/lang/Iterable -/
def k19 : Class := { plain "java/lang/Iterable" (some 0) with
  accessFlags := 1537
  interfaces := #[]
  cf := some (fileOf pool19 8 #[] #[] 1537 35 #[] #[])
  fields := #[]
  methods := #[]
  instanceTypes := #[]
  staticTypes := #[]
  resolved := Array.replicate 62 none
  statics := none }

def pool20 : Array CpInfo := pool [(10, .class_ 12), (1, u "java/util/Collection"), (47, .class_ 61), (0, u "java/lang/Object"), (0, .class_ 63), (0, u "java/lang/Iterable")] 51

/-- java/util/Collection -/
def k20 : Class := { plain "java/util/Collection" (some 0) with
  accessFlags := 1537
  interfaces := #[19]
  cf := some (fileOf pool20 10 #[] #[] 1537 60 #[62] #[])
  fields := #[]
  methods := #[]
  instanceTypes := #[]
  staticTypes := #[]
  resolved := Array.replicate 115 none
  statics := none }

def pool21 : Array CpInfo := pool [(1, .methodref 2 3), (0, .class_ 4), (0, .nameAndType 5 6), (0, u "java/lang/Object"), (0, u "<init>"), (0, u "()V"), (1, .class_ 10), (1, u "java/util/AbstractCollection"), (66, .class_ 78), (0, u "java/util/Collection")] 81

def k21c0 : Code := { maxStack := 1, maxLocals := 1, code := jdk_22_method_1_code, exceptionTable := #[], attributes := #[] }
def k21m0 : Method := { name := "<init>", desc := "()V", sig := { parameters := [], returnType := none }, accessFlags := 4, code := some k21c0 }
/-- java/util/AbstractCollection -/
def k21 : Class := { plain "java/util/AbstractCollection" (some 0) with
  accessFlags := 1057
  interfaces := #[20]
  cf := some (fileOf pool21 8 #[] #[{ accessFlags := 4, nameIndex := 5, descriptorIndex := 6, attributes := #[] }] 1057 2 #[77] #[])
  fields := #[]
  methods := #[k21m0]
  instanceTypes := #[]
  staticTypes := #[]
  resolved := Array.replicate 160 none
  statics := none }

def pool22 : Array CpInfo := pool [(26, .class_ 27), (0, u "java/lang/Object"), (5, .class_ 34), (0, u "java/util/Set"), (1, .class_ 38), (1, u "java/util/Collection"), (22, u "iterator"), (0, u "()Ljava/util/Iterator;")] 81

def k22m0 : Method := { name := "iterator", desc := "()Ljava/util/Iterator;", sig := { parameters := [], returnType := some (.object "java/util/Iterator") }, accessFlags := 1025, code := none }
/-- java/util/Set -/
def k22 : Class := { plain "java/util/Set" (some 0) with
  accessFlags := 1537
  interfaces := #[20]
  cf := some (fileOf pool22 33 #[] #[{ accessFlags := 1025, nameIndex := 61, descriptorIndex := 62, attributes := #[] }] 1537 26 #[36] #[])
  fields := #[]
  methods := #[k22m0]
  instanceTypes := #[]
  staticTypes := #[]
  resolved := Array.replicate 144 none
  statics := none }

def pool23 : Array CpInfo := pool [(1, .methodref 2 3), (0, .class_ 4), (0, .nameAndType 5 6), (0, u "java/util/AbstractCollection"), (0, u "<init>"), (0, u "()V"), (0, .class_ 8), (0, u "java/util/Set"), (7, .class_ 17), (0, u "java/util/AbstractSet")] 78

def k23c0 : Code := { maxStack := 1, maxLocals := 1, code := jdk_91_method_1_code, exceptionTable := #[], attributes := #[] }
def k23m0 : Method := { name := "<init>", desc := "()V", sig := { parameters := [], returnType := none }, accessFlags := 4, code := some k23c0 }
/-- java/util/AbstractSet -/
def k23 : Class := { plain "java/util/AbstractSet" (some 21) with
  accessFlags := 1057
  interfaces := #[22]
  cf := some (fileOf pool23 16 #[] #[{ accessFlags := 4, nameIndex := 5, descriptorIndex := 6, attributes := #[] }] 1057 2 #[7] #[])
  fields := #[]
  methods := #[k23m0]
  instanceTypes := #[]
  staticTypes := #[]
  resolved := Array.replicate 96 none
  statics := none }

def pool24 : Array CpInfo := pool [(1, .fieldref 2 3), (0, .class_ 4), (0, .nameAndType 5 6), (0, u "java/util/TreeMap$EntrySet"), (0, u "this$0"), (0, u "Ljava/util/TreeMap;"), (0, .methodref 8 9), (0, .class_ 10), (0, .nameAndType 11 12), (0, u "java/util/AbstractSet"), (0, u "<init>"), (0, u "()V"), (0, .class_ 14), (0, u "java/util/TreeMap$EntryIterator"), (0, .methodref 16 17), (0, .class_ 18), (0, .nameAndType 19 20), (0, u "java/util/TreeMap"), (0, u "getFirstEntry"), (0, u "()Ljava/util/TreeMap$Entry;"), (0, .methodref 13 22), (0, .nameAndType 11 23), (0, u "(Ljava/util/TreeMap;Ljava/util/TreeMap$Entry;)V"), (36, u "(Ljava/util/TreeMap;)V"), (8, u "iterator"), (0, u "()Ljava/util/Iterator;")] 31

def k24c0 : Code := { maxStack := 2, maxLocals := 2, code := jdk_2738_method_1_code, exceptionTable := #[], attributes := #[] }
def k24m0 : Method := { name := "<init>", desc := "(Ljava/util/TreeMap;)V", sig := { parameters := [(.object "java/util/TreeMap")], returnType := none }, accessFlags := 0, code := some k24c0 }
def k24c1 : Code := { maxStack := 4, maxLocals := 1, code := jdk_2738_method_2_code, exceptionTable := #[], attributes := #[] }
def k24m1 : Method := { name := "iterator", desc := "()Ljava/util/Iterator;", sig := { parameters := [], returnType := some (.object "java/util/Iterator") }, accessFlags := 1, code := some k24c1 }
/-- java/util/TreeMap$EntrySet -/
def k24 : Class := { plain "java/util/TreeMap$EntrySet" (some 23) with
  accessFlags := 32
  interfaces := #[]
  cf := some (fileOf pool24 2 #[.nestHost 16] #[{ accessFlags := 0, nameIndex := 11, descriptorIndex := 60, attributes := #[] }, { accessFlags := 1, nameIndex := 69, descriptorIndex := 70, attributes := #[] }] 32 8 #[] #[{ accessFlags := 4112, nameIndex := 5, descriptorIndex := 6, attributes := #[] }])
  fields := #[{ name := "this$0", type := (.object "java/util/TreeMap"), accessFlags := 4112, slot := 0, constantValue := 0 }]
  methods := #[k24m0, k24m1]
  instanceTypes := #[(.object "java/util/TreeMap")]
  staticTypes := #[]
  resolved := Array.replicate 102 none
  statics := none }

def pool25 : Array CpInfo := pool [(16, .class_ 18), (1, u "java/util/Iterator"), (0, u "hasNext"), (0, u "()Z"), (10, .class_ 32), (0, u "java/lang/Object")] 20

def k25m0 : Method := { name := "hasNext", desc := "()Z", sig := { parameters := [], returnType := some .boolean }, accessFlags := 1025, code := none }
/-- java/util/Iterator -/
def k25 : Class := { plain "java/util/Iterator" (some 0) with
  accessFlags := 1537
  interfaces := #[]
  cf := some (fileOf pool25 16 #[] #[{ accessFlags := 1025, nameIndex := 19, descriptorIndex := 20, attributes := #[] }] 1537 31 #[] #[])
  fields := #[]
  methods := #[k25m0]
  instanceTypes := #[]
  staticTypes := #[]
  resolved := Array.replicate 53 none
  statics := none }

def pool26 : Array CpInfo := pool [(1, .fieldref 2 3), (0, .class_ 4), (0, .nameAndType 5 6), (0, u "java/util/TreeMap$PrivateEntryIterator"), (0, u "this$0"), (0, u "Ljava/util/TreeMap;"), (0, .methodref 8 9), (0, .class_ 10), (0, .nameAndType 11 12), (0, u "java/lang/Object"), (0, u "<init>"), (0, u "()V"), (0, .fieldref 14 15), (0, .class_ 16), (0, .nameAndType 17 18), (0, u "java/util/TreeMap"), (0, u "modCount"), (0, u "I"), (0, .fieldref 2 20), (0, .nameAndType 21 18), (0, u "expectedModCount"), (0, .fieldref 2 23), (0, .nameAndType 24 25), (0, u "lastReturned"), (0, u "Ljava/util/TreeMap$Entry;"), (0, .fieldref 2 27), (0, .nameAndType 28 25), (0, u "next"), (28, .class_ 58), (0, u "java/util/Iterator"), (2, u "(Ljava/util/TreeMap;Ljava/util/TreeMap$Entry;)V"), (10, u "hasNext"), (0, u "()Z")] 14

def k26c0 : Code := { maxStack := 2, maxLocals := 3, code := jdk_2750_method_1_code, exceptionTable := #[], attributes := #[] }
def k26m0 : Method := { name := "<init>", desc := "(Ljava/util/TreeMap;Ljava/util/TreeMap$Entry;)V", sig := { parameters := [(.object "java/util/TreeMap"), (.object "java/util/TreeMap$Entry")], returnType := none }, accessFlags := 0, code := some k26c0 }
def k26c1 : Code := { maxStack := 1, maxLocals := 1, code := jdk_2750_method_2_code, exceptionTable := #[], attributes := #[] }
def k26m1 : Method := { name := "hasNext", desc := "()Z", sig := { parameters := [], returnType := some .boolean }, accessFlags := 17, code := some k26c1 }
/-- java/util/TreeMap$PrivateEntryIterator -/
def k26 : Class := { plain "java/util/TreeMap$PrivateEntryIterator" (some 0) with
  accessFlags := 1056
  interfaces := #[25]
  cf := some (fileOf pool26 2 #[.nestHost 14] #[{ accessFlags := 0, nameIndex := 11, descriptorIndex := 61, attributes := #[] }, { accessFlags := 17, nameIndex := 72, descriptorIndex := 73, attributes := #[] }] 1056 8 #[57] #[{ accessFlags := 0, nameIndex := 28, descriptorIndex := 25, attributes := #[] }, { accessFlags := 0, nameIndex := 24, descriptorIndex := 25, attributes := #[] }, { accessFlags := 0, nameIndex := 21, descriptorIndex := 18, attributes := #[] }, { accessFlags := 4112, nameIndex := 5, descriptorIndex := 6, attributes := #[] }])
  fields := #[{ name := "next", type := (.object "java/util/TreeMap$Entry"), accessFlags := 0, slot := 0, constantValue := 0 }, { name := "lastReturned", type := (.object "java/util/TreeMap$Entry"), accessFlags := 0, slot := 1, constantValue := 0 }, { name := "expectedModCount", type := .int, accessFlags := 0, slot := 2, constantValue := 0 }, { name := "this$0", type := (.object "java/util/TreeMap"), accessFlags := 4112, slot := 3, constantValue := 0 }]
  methods := #[k26m0, k26m1]
  instanceTypes := #[(.object "java/util/TreeMap$Entry"), (.object "java/util/TreeMap$Entry"), .int, (.object "java/util/TreeMap")]
  staticTypes := #[]
  resolved := (Array.replicate 88 none).setIfInBounds 13 (some (.field 15 3))
  statics := none }

def pool27 : Array CpInfo := pool [(1, .methodref 2 3), (0, .class_ 4), (0, .nameAndType 5 6), (0, u "java/util/TreeMap$PrivateEntryIterator"), (0, u "<init>"), (0, u "(Ljava/util/TreeMap;Ljava/util/TreeMap$Entry;)V"), (1, .class_ 10), (1, u "java/util/TreeMap$EntryIterator"), (27, .class_ 39), (0, u "java/util/TreeMap")] 10

def k27c0 : Code := { maxStack := 3, maxLocals := 3, code := jdk_2737_method_1_code, exceptionTable := #[], attributes := #[] }
def k27m0 : Method := { name := "<init>", desc := "(Ljava/util/TreeMap;Ljava/util/TreeMap$Entry;)V", sig := { parameters := [(.object "java/util/TreeMap"), (.object "java/util/TreeMap$Entry")], returnType := none }, accessFlags := 0, code := some k27c0 }
/-- java/util/TreeMap$EntryIterator -/
def k27 : Class := { plain "java/util/TreeMap$EntryIterator" (some 26) with
  accessFlags := 48
  interfaces := #[]
  cf := some (fileOf pool27 8 #[.nestHost 38] #[{ accessFlags := 0, nameIndex := 5, descriptorIndex := 6, attributes := #[] }] 48 2 #[] #[])
  fields := #[]
  methods := #[k27m0]
  instanceTypes := #[(.object "java/util/TreeMap$Entry"), (.object "java/util/TreeMap$Entry"), .int, (.object "java/util/TreeMap")]
  staticTypes := #[]
  resolved := Array.replicate 50 none
  statics := none }

def pool28 : Array CpInfo := pool [(2, .class_ 4), (1, u "java/lang/Object"), (0, u "<init>"), (0, u "()V"), (12, .class_ 20), (0, u "java/util/Collections"), (63, u "r"), (0, u "Ljava/util/Random;"), (77, .nameAndType 164 165), (0, u "getClass"), (0, u "()Ljava/lang/Class;"), (0, .class_ 167), (0, u "java/util/Collections$UnmodifiableCollection"), (6, .class_ 175), (0, u "java/util/Collections$UnmodifiableSequencedCollection"), (6, .class_ 183), (0, u "java/util/Collections$UnmodifiableSet"), (6, .class_ 191), (0, u "java/util/Collections$UnmodifiableSequencedSet"), (6, .class_ 199), (0, u "java/util/Collections$UnmodifiableSortedSet"), (6, .class_ 207), (0, u "java/util/Collections$UnmodifiableNavigableSet"), (4, .class_ 213), (0, u "java/util/Collections$UnmodifiableList"), (1, .class_ 216), (0, u "java/util/Collections$UnmodifiableRandomAccessList"), (3, .interfaceMethodref 221 163), (0, .class_ 222), (0, u "java/util/Map"), (0, .class_ 224), (0, u "java/util/Collections$UnmodifiableMap"), (0, .methodref 223 226), (0, .nameAndType 5 227), (0, u "(Ljava/util/Map;)V"), (3, .class_ 232), (0, u "java/util/Collections$UnmodifiableSequencedMap"), (4, .class_ 238), (0, u "java/util/Collections$UnmodifiableSortedMap"), (6, .class_ 246), (0, u "java/util/Collections$UnmodifiableNavigableMap"), (3, .class_ 251), (0, u "java/util/Collections$SynchronizedCollection"), (4, .class_ 257), (0, u "java/util/Collections$SynchronizedSet"), (4, .class_ 263), (0, u "java/util/Collections$SynchronizedSortedSet"), (1, .class_ 266), (0, u "java/util/Collections$SynchronizedNavigableSet"), (1, .class_ 269), (0, u "java/util/Collections$SynchronizedRandomAccessList"), (1, .class_ 272), (0, u "java/util/Collections$SynchronizedList"), (5, .class_ 279), (0, u "java/util/Collections$SynchronizedMap"), (1, .class_ 282), (0, u "java/util/Collections$SynchronizedSortedMap"), (1, .class_ 285), (0, u "java/util/Collections$SynchronizedNavigableMap"), (1, .class_ 288), (0, u "java/util/Collections$CheckedCollection"), (11, .class_ 301), (0, u "java/util/Collections$CheckedQueue"), (3, .class_ 306), (0, u "java/util/Collections$CheckedSet"), (3, .class_ 311), (0, u "java/util/Collections$CheckedSortedSet"), (3, .class_ 316), (0, u "java/util/Collections$CheckedNavigableSet"), (3, .class_ 321), (0, u "java/util/Collections$CheckedRandomAccessList"), (3, .class_ 326), (0, u "java/util/Collections$CheckedList"), (1, .class_ 329), (0, u "java/util/Collections$CheckedMap"), (3, .class_ 334), (0, u "java/util/Collections$CheckedSortedMap"), (3, .class_ 339), (0, u "java/util/Collections$CheckedNavigableMap"), (4, .class_ 346), (1, u "java/util/Collections$EmptyIterator"), (3, .class_ 352), (1, u "java/util/Collections$EmptyListIterator"), (2, .class_ 357), (1, u "java/util/Collections$EmptyEnumeration"), (4, u "EMPTY_SET"), (0, u "Ljava/util/Set;"), (6, u "EMPTY_LIST"), (0, u "Ljava/util/List;"), (2, u "EMPTY_MAP"), (0, u "Ljava/util/Map;"), (4, .class_ 381), (0, u "java/util/Collections$SingletonSet"), (2, .class_ 385), (0, u "java/util/Collections$1"), (1, .class_ 388), (0, u "java/util/Collections$2"), (1, .class_ 391), (0, u "java/util/Collections$SingletonList"), (1, .class_ 394), (0, u "java/util/Collections$SingletonMap"), (22, .class_ 418), (0, u "java/util/Collections$CopiesList"), (4, .class_ 425), (1, u "java/util/Collections$ReverseComparator"), (8, .class_ 435), (0, u "java/util/Collections$ReverseComparator2"), (6, .class_ 443), (0, u "java/util/Collections$3"), (25, .class_ 470), (0, u "java/util/Collections$SetFromMap"), (2, .class_ 474), (0, u "java/util/Collections$SequencedSetFromMap"), (3, .class_ 479), (0, u "java/util/Collections$AsLIFOQueue"), (11, .class_ 492), (0, u "java/util/Collections$EmptySet"), (1, .class_ 495), (0, u "java/util/Collections$EmptyList"), (1, .class_ 498), (0, u "java/util/Collections$EmptyMap"), (1, u "BINARYSEARCH_THRESHOLD"), (0, u "I"), (2, u "REVERSE_THRESHOLD"), (1, u "SHUFFLE_THRESHOLD"), (1, u "FILL_THRESHOLD"), (1, u "ROTATE_THRESHOLD"), (1, u "COPY_THRESHOLD"), (1, u "REPLACEALL_THRESHOLD"), (1, u "INDEXOFSUBLIST_THRESHOLD"), (132, u "unmodifiableMap"), (0, u "(Ljava/util/Map;)Ljava/util/Map;"), (199, .class_ 851), (0, u "java/util/Collections$CheckedMap$CheckedEntrySet"), (0, .class_ 853), (0, u "java/util/Collections$CheckedMap$CheckedEntrySet$CheckedEntry"), (0, .class_ 855), (0, u "java/util/Collections$CheckedMap$CheckedEntrySet$1"), (0, .class_ 857), (0, u "java/util/Collections$CheckedList$1"), (0, .class_ 859), (0, u "java/util/Collections$CheckedCollection$1"), (0, .class_ 861), (0, u "java/util/Collections$UnmodifiableNavigableMap$EmptyNavigableMap"), (0, .class_ 863), (0, u "java/util/Collections$UnmodifiableMap$UnmodifiableEntrySet"), (0, .class_ 865), (0, u "java/util/Collections$UnmodifiableMap$UnmodifiableEntrySet$UnmodifiableEntry"), (0, .class_ 867), (0, u "java/util/Collections$UnmodifiableMap$UnmodifiableEntrySet$UnmodifiableEntrySetSpliterator"), (0, .class_ 869), (0, u "java/util/Collections$UnmodifiableMap$UnmodifiableEntrySet$1"), (0, .class_ 871), (0, u "java/util/Collections$UnmodifiableList$1"), (0, .class_ 873), (0, u "java/util/Collections$UnmodifiableNavigableSet$EmptyNavigableSet"), (0, .class_ 875), (0, u "java/util/Collections$UnmodifiableCollection$1")] 57

def k28m0 : Method := { name := "<init>", desc := "()V", sig := { parameters := [], returnType := none }, accessFlags := 2, code := none }
def k28c1 : Code := { maxStack := 3, maxLocals := 1, code := jdk_79_method_36_code, exceptionTable := #[], attributes := #[] }
def k28m1 : Method := { name := "unmodifiableMap", desc := "(Ljava/util/Map;)Ljava/util/Map;", sig := { parameters := [(.object "java/util/Map")], returnType := some (.object "java/util/Map") }, accessFlags := 9, code := some k28c1 }
/-- java/util/Collections -/
def k28 : Class := { plain "java/util/Collections" (some 0) with
  accessFlags := 33
  interfaces := #[]
  cf := some (fileOf pool28 19 #[.nestMembers #[478, 473, 469, 434, 423, 417, 393, 390, 380, 497, 494, 491, 355, 350, 344, 338, 333, 328, 850, 852, 854, 320, 325, 856, 315, 310, 305, 300, 287, 858, 284, 281, 278, 268, 271, 265, 262, 256, 250, 245, 860, 237, 231, 223, 862, 864, 866, 868, 215, 212, 870, 206, 872, 198, 190, 182, 174, 166, 874, 442, 387, 384]] #[{ accessFlags := 2, nameIndex := 5, descriptorIndex := 6, attributes := #[] }, { accessFlags := 9, nameIndex := 649, descriptorIndex := 650, attributes := #[] }] 33 2 #[] #[{ accessFlags := 26, nameIndex := 500, descriptorIndex := 501, attributes := #[] }, { accessFlags := 26, nameIndex := 504, descriptorIndex := 501, attributes := #[] }, { accessFlags := 26, nameIndex := 506, descriptorIndex := 501, attributes := #[] }, { accessFlags := 26, nameIndex := 508, descriptorIndex := 501, attributes := #[] }, { accessFlags := 26, nameIndex := 510, descriptorIndex := 501, attributes := #[] }, { accessFlags := 26, nameIndex := 512, descriptorIndex := 501, attributes := #[] }, { accessFlags := 26, nameIndex := 514, descriptorIndex := 501, attributes := #[] }, { accessFlags := 26, nameIndex := 516, descriptorIndex := 501, attributes := #[] }, { accessFlags := 10, nameIndex := 84, descriptorIndex := 85, attributes := #[] }, { accessFlags := 25, nameIndex := 362, descriptorIndex := 363, attributes := #[] }, { accessFlags := 25, nameIndex := 370, descriptorIndex := 371, attributes := #[] }, { accessFlags := 25, nameIndex := 374, descriptorIndex := 375, attributes := #[] }])
  fields := #[{ name := "BINARYSEARCH_THRESHOLD", type := .int, accessFlags := 26, slot := 0, constantValue := 0 }, { name := "REVERSE_THRESHOLD", type := .int, accessFlags := 26, slot := 1, constantValue := 0 }, { name := "SHUFFLE_THRESHOLD", type := .int, accessFlags := 26, slot := 2, constantValue := 0 }, { name := "FILL_THRESHOLD", type := .int, accessFlags := 26, slot := 3, constantValue := 0 }, { name := "ROTATE_THRESHOLD", type := .int, accessFlags := 26, slot := 4, constantValue := 0 }, { name := "COPY_THRESHOLD", type := .int, accessFlags := 26, slot := 5, constantValue := 0 }, { name := "REPLACEALL_THRESHOLD", type := .int, accessFlags := 26, slot := 6, constantValue := 0 }, { name := "INDEXOFSUBLIST_THRESHOLD", type := .int, accessFlags := 26, slot := 7, constantValue := 0 }, { name := "r", type := (.object "java/util/Random"), accessFlags := 10, slot := 8, constantValue := 0 }, { name := "EMPTY_SET", type := (.object "java/util/Set"), accessFlags := 25, slot := 9, constantValue := 0 }, { name := "EMPTY_LIST", type := (.object "java/util/List"), accessFlags := 25, slot := 10, constantValue := 0 }, { name := "EMPTY_MAP", type := (.object "java/util/Map"), accessFlags := 25, slot := 11, constantValue := 0 }]
  methods := #[k28m0, k28m1]
  instanceTypes := #[]
  staticTypes := #[.int, .int, .int, .int, .int, .int, .int, .int, (.object "java/util/Random"), (.object "java/util/Set"), (.object "java/util/List"), (.object "java/util/Map")]
  resolved := Array.replicate 933 none
  statics := none }

def pool29 : Array CpInfo := pool [(1, .methodref 2 3), (0, .class_ 4), (0, .nameAndType 5 6), (0, u "java/lang/Object"), (0, u "<init>"), (0, u "()V"), (3, .fieldref 11 12), (0, .class_ 13), (0, .nameAndType 14 15), (0, u "java/util/Collections$UnmodifiableMap"), (0, u "m"), (0, u "Ljava/util/Map;"), (1, .class_ 19), (1, u "java/util/Map"), (22, u "keySet"), (0, u "Ljava/util/Set;"), (4, .class_ 50), (1, u "java/util/Collections"), (4, u "entrySet"), (9, u "values"), (0, u "Ljava/util/Collection;"), (25, .class_ 93), (0, u "java/io/Serializable"), (0, u "serialVersionUID"), (0, u "J"), (8, u "(Ljava/util/Map;)V")] 70

def k29c0 : Code := { maxStack := 2, maxLocals := 2, code := jdk_2500_method_1_code, exceptionTable := #[], attributes := #[] }
def k29m0 : Method := { name := "<init>", desc := "(Ljava/util/Map;)V", sig := { parameters := [(.object "java/util/Map")], returnType := none }, accessFlags := 0, code := some k29c0 }
/-- java/util/Collections$UnmodifiableMap -/
def k29 : Class := { plain "java/util/Collections$UnmodifiableMap" (some 0) with
  accessFlags := 32
  interfaces := #[8, 2]
  cf := some (fileOf pool29 11 #[.nestHost 48] #[{ accessFlags := 0, nameIndex := 5, descriptorIndex := 104, attributes := #[] }] 32 2 #[17, 92] #[{ accessFlags := 26, nameIndex := 94, descriptorIndex := 95, attributes := #[] }, { accessFlags := 16, nameIndex := 14, descriptorIndex := 15, attributes := #[] }, { accessFlags := 130, nameIndex := 42, descriptorIndex := 43, attributes := #[] }, { accessFlags := 130, nameIndex := 55, descriptorIndex := 43, attributes := #[] }, { accessFlags := 130, nameIndex := 65, descriptorIndex := 66, attributes := #[] }])
  fields := #[{ name := "serialVersionUID", type := .long, accessFlags := 26, slot := 0, constantValue := 0 }, { name := "m", type := (.object "java/util/Map"), accessFlags := 16, slot := 0, constantValue := 0 }, { name := "keySet", type := (.object "java/util/Set"), accessFlags := 130, slot := 1, constantValue := 0 }, { name := "entrySet", type := (.object "java/util/Set"), accessFlags := 130, slot := 2, constantValue := 0 }, { name := "values", type := (.object "java/util/Collection"), accessFlags := 130, slot := 3, constantValue := 0 }]
  methods := #[k29m0]
  instanceTypes := #[(.object "java/util/Map"), (.object "java/util/Set"), (.object "java/util/Set"), (.object "java/util/Collection")]
  staticTypes := #[.long]
  resolved := Array.replicate 175 none
  mirror := some 3
  statics := none }

def pool30 : Array CpInfo := pool [(6, .class_ 8), (1, u "java/lang/Object"), (0, u "<init>"), (0, u "()V"), (1, .class_ 14), (1, u "java/lang/StringUTF16"), (31, u "$assertionsDisabled"), (0, u "Z"), (13, u "HI_BYTE_SHIFT"), (0, u "I"), (2, u "LO_BYTE_SHIFT"), (49, .methodref 12 116), (0, .nameAndType 117 118), (0, u "compress"), (0, u "([CI[BII)I"), (3, u "([CII)[B"), (138, u "coderFromArrayLen"), (0, u "([BI)B"), (106, .class_ 371), (1, u "java/lang/StringUTF16$LinesSpliterator"), (58, u "MAX_LENGTH"), (196, .class_ 628), (0, u "java/lang/StringUTF16$CodePointsSpliterator"), (0, .class_ 630), (0, u "java/lang/StringUTF16$CharsSpliterator")] 4

def k30m0 : Method := { name := "<init>", desc := "()V", sig := { parameters := [], returnType := none }, accessFlags := 0, code := none }
def k30c1 : Code := { maxStack := 2, maxLocals := 2, code := jdk_52_method_15_code, exceptionTable := #[], attributes := #[] }
def k30m1 : Method := { name := "coderFromArrayLen", desc := "([BI)B", sig := { parameters := [(.array .byte), .int], returnType := some .byte }, accessFlags := 8, code := some k30c1 }
def k30c2 : Code := { maxStack := 5, maxLocals := 6, code := jdk_52_method_16_code, exceptionTable := #[], attributes := #[] }
def k30m2 : Method := { name := "compress", desc := "([CII)[B", sig := { parameters := [(.array .char), .int, .int], returnType := some (.array .byte) }, accessFlags := 9, code := some k30c2 }
def k30c3 : Code := { maxStack := 3, maxLocals := 7, code := jdk_52_method_21_code, exceptionTable := #[], attributes := #[] }
def k30m3 : Method := { name := "compress", desc := "([CI[BII)I", sig := { parameters := [(.array .char), .int, (.array .byte), .int, .int], returnType := some .int }, accessFlags := 9, code := some k30c3 }
/-- java/lang/StringUTF16 -/
def k30 : Class := { plain "java/lang/StringUTF16" (some 0) with
  accessFlags := 48
  interfaces := #[]
  cf := some (fileOf pool30 12 #[.nestMembers #[627, 629, 369]] #[{ accessFlags := 0, nameIndex := 9, descriptorIndex := 10, attributes := #[] }, { accessFlags := 8, nameIndex := 261, descriptorIndex := 262, attributes := #[] }, { accessFlags := 9, nameIndex := 117, descriptorIndex := 122, attributes := #[] }, { accessFlags := 9, nameIndex := 117, descriptorIndex := 118, attributes := #[] }] 48 6 #[] #[{ accessFlags := 26, nameIndex := 61, descriptorIndex := 62, attributes := #[] }, { accessFlags := 26, nameIndex := 65, descriptorIndex := 62, attributes := #[] }, { accessFlags := 24, nameIndex := 430, descriptorIndex := 62, attributes := #[] }, { accessFlags := 4120, nameIndex := 46, descriptorIndex := 47, attributes := #[] }])
  fields := #[{ name := "HI_BYTE_SHIFT", type := .int, accessFlags := 26, slot := 0, constantValue := 0 }, { name := "LO_BYTE_SHIFT", type := .int, accessFlags := 26, slot := 1, constantValue := 0 }, { name := "MAX_LENGTH", type := .int, accessFlags := 24, slot := 2, constantValue := 0 }, { name := "$assertionsDisabled", type := .boolean, accessFlags := 4120, slot := 3, constantValue := 0 }]
  methods := #[k30m0, k30m1, k30m2, k30m3]
  instanceTypes := #[]
  staticTypes := #[.int, .int, .int, .boolean]
  resolved := Array.replicate 635 none
  statics := none }

def pool31 : Array CpInfo := pool [(4, .class_ 6), (1, u "java/lang/Object"), (0, u "<init>"), (0, u "()V"), (5, .class_ 16), (1, u "java/lang/StringLatin1"), (104, u "$assertionsDisabled"), (0, u "Z"), (98, .class_ 223), (1, u "java/lang/StringLatin1$LinesSpliterator"), (166, .class_ 391), (0, u "java/lang/StringLatin1$CharsSpliterator")] 3

def k31m0 : Method := { name := "<init>", desc := "()V", sig := { parameters := [], returnType := none }, accessFlags := 0, code := none }
/-- java/lang/StringLatin1 -/
def k31 : Class := { plain "java/lang/StringLatin1" (some 0) with
  accessFlags := 48
  interfaces := #[]
  cf := some (fileOf pool31 14 #[.nestMembers #[390, 221]] #[{ accessFlags := 0, nameIndex := 7, descriptorIndex := 8, attributes := #[] }] 48 4 #[] #[{ accessFlags := 4120, nameIndex := 121, descriptorIndex := 122, attributes := #[] }])
  fields := #[{ name := "$assertionsDisabled", type := .boolean, accessFlags := 4120, slot := 0, constantValue := 0 }]
  methods := #[k31m0]
  instanceTypes := #[]
  staticTypes := #[.boolean]
  resolved := Array.replicate 395 none
  statics := none }

def pool32 : Array CpInfo := pool [(2, .class_ 4), (1, u "java/lang/Object"), (0, u "<init>"), (0, u "()V"), (17, .class_ 26), (1, u "jdk/internal/util/Preconditions"), (28, .class_ 56), (0, u "jdk/internal/util/Preconditions$4"), (57, .class_ 115), (0, u "jdk/internal/util/Preconditions$1"), (7, u "SIOOBE_FORMATTER"), (0, u "Ljava/util/function/BiFunction;"), (0, .class_ 126), (0, u "jdk/internal/util/Preconditions$2"), (3, u "AIOOBE_FORMATTER"), (0, .class_ 132), (0, u "jdk/internal/util/Preconditions$3"), (3, u "IOOBE_FORMATTER")] 57

def k32m0 : Method := { name := "<init>", desc := "()V", sig := { parameters := [], returnType := none }, accessFlags := 1, code := none }
/-- jdk/internal/util/Preconditions -/
def k32 : Class := { plain "jdk/internal/util/Preconditions" (some 0) with
  accessFlags := 33
  interfaces := #[]
  cf := some (fileOf pool32 24 #[.nestMembers #[55, 131, 125, 114]] #[{ accessFlags := 1, nameIndex := 5, descriptorIndex := 6, attributes := #[] }] 33 2 #[] #[{ accessFlags := 25, nameIndex := 123, descriptorIndex := 124, attributes := #[] }, { accessFlags := 25, nameIndex := 130, descriptorIndex := 124, attributes := #[] }, { accessFlags := 25, nameIndex := 136, descriptorIndex := 124, attributes := #[] }])
  fields := #[{ name := "SIOOBE_FORMATTER", type := (.object "java/util/function/BiFunction"), accessFlags := 25, slot := 0, constantValue := 0 }, { name := "AIOOBE_FORMATTER", type := (.object "java/util/function/BiFunction"), accessFlags := 25, slot := 1, constantValue := 0 }, { name := "IOOBE_FORMATTER", type := (.object "java/util/function/BiFunction"), accessFlags := 25, slot := 2, constantValue := 0 }]
  methods := #[k32m0]
  instanceTypes := #[]
  staticTypes := #[(.object "java/util/function/BiFunction"), (.object "java/util/function/BiFunction"), (.object "java/util/function/BiFunction")]
  resolved := Array.replicate 194 none
  statics := some 1 }

def pool33 : Array CpInfo := pool [(9, u "<init>"), (6, .class_ 18), (1, u "java/lang/Object"), (0, u "()V"), (1, .class_ 23), (1, u "jdk/internal/util/ArraysSupport"), (0, u "LOG2_ARRAY_LONG_INDEX_SCALE"), (0, u "I"), (2, u "U"), (0, u "Ljdk/internal/misc/Unsafe;"), (8, u "BIG_ENDIAN"), (0, u "Z"), (8, u "LOG2_BYTE_BIT_SIZE"), (4, u "LOG2_ARRAY_INT_INDEX_SCALE"), (54, u "JLA"), (0, u "Ljdk/internal/access/JavaLangAccess;"), (11, u "LOG2_ARRAY_BOOLEAN_INDEX_SCALE"), (9, u "LOG2_ARRAY_BYTE_INDEX_SCALE"), (5, u "LOG2_ARRAY_CHAR_INDEX_SCALE"), (5, u "LOG2_ARRAY_SHORT_INDEX_SCALE"), (18, u "LOG2_ARRAY_FLOAT_INDEX_SCALE"), (24, u "LOG2_ARRAY_DOUBLE_INDEX_SCALE"), (89, u "T_BOOLEAN"), (2, u "T_CHAR"), (1, u "T_FLOAT"), (1, u "T_DOUBLE"), (1, u "T_BYTE"), (1, u "T_SHORT"), (1, u "T_INT"), (1, u "T_LONG"), (1, u "SOFT_MAX_ARRAY_LENGTH")] 83

def k33m0 : Method := { name := "<init>", desc := "()V", sig := { parameters := [], returnType := none }, accessFlags := 2, code := none }
/-- jdk/internal/util/ArraysSupport -/
def k33 : Class := { plain "jdk/internal/util/ArraysSupport" (some 0) with
  accessFlags := 33
  interfaces := #[]
  cf := some (fileOf pool33 21 #[] #[{ accessFlags := 2, nameIndex := 9, descriptorIndex := 19, attributes := #[] }] 33 16 #[] #[{ accessFlags := 24, nameIndex := 28, descriptorIndex := 29, attributes := #[] }, { accessFlags := 26, nameIndex := 38, descriptorIndex := 39, attributes := #[] }, { accessFlags := 25, nameIndex := 121, descriptorIndex := 25, attributes := #[] }, { accessFlags := 25, nameIndex := 131, descriptorIndex := 25, attributes := #[] }, { accessFlags := 25, nameIndex := 137, descriptorIndex := 25, attributes := #[] }, { accessFlags := 25, nameIndex := 143, descriptorIndex := 25, attributes := #[] }, { accessFlags := 25, nameIndex := 53, descriptorIndex := 25, attributes := #[] }, { accessFlags := 25, nameIndex := 24, descriptorIndex := 25, attributes := #[] }, { accessFlags := 25, nameIndex := 162, descriptorIndex := 25, attributes := #[] }, { accessFlags := 25, nameIndex := 187, descriptorIndex := 25, attributes := #[] }, { accessFlags := 26, nameIndex := 48, descriptorIndex := 25, attributes := #[] }, { accessFlags := 25, nameIndex := 277, descriptorIndex := 25, attributes := #[] }, { accessFlags := 25, nameIndex := 280, descriptorIndex := 25, attributes := #[] }, { accessFlags := 25, nameIndex := 282, descriptorIndex := 25, attributes := #[] }, { accessFlags := 25, nameIndex := 284, descriptorIndex := 25, attributes := #[] }, { accessFlags := 25, nameIndex := 286, descriptorIndex := 25, attributes := #[] }, { accessFlags := 25, nameIndex := 288, descriptorIndex := 25, attributes := #[] }, { accessFlags := 25, nameIndex := 290, descriptorIndex := 25, attributes := #[] }, { accessFlags := 25, nameIndex := 292, descriptorIndex := 25, attributes := #[] }, { accessFlags := 26, nameIndex := 108, descriptorIndex := 109, attributes := #[] }, { accessFlags := 25, nameIndex := 294, descriptorIndex := 25, attributes := #[] }])
  fields := #[{ name := "U", type := (.object "jdk/internal/misc/Unsafe"), accessFlags := 24, slot := 0, constantValue := 0 }, { name := "BIG_ENDIAN", type := .boolean, accessFlags := 26, slot := 1, constantValue := 0 }, { name := "LOG2_ARRAY_BOOLEAN_INDEX_SCALE", type := .int, accessFlags := 25, slot := 2, constantValue := 0 }, { name := "LOG2_ARRAY_BYTE_INDEX_SCALE", type := .int, accessFlags := 25, slot := 3, constantValue := 0 }, { name := "LOG2_ARRAY_CHAR_INDEX_SCALE", type := .int, accessFlags := 25, slot := 4, constantValue := 0 }, { name := "LOG2_ARRAY_SHORT_INDEX_SCALE", type := .int, accessFlags := 25, slot := 5, constantValue := 0 }, { name := "LOG2_ARRAY_INT_INDEX_SCALE", type := .int, accessFlags := 25, slot := 6, constantValue := 0 }, { name := "LOG2_ARRAY_LONG_INDEX_SCALE", type := .int, accessFlags := 25, slot := 7, constantValue := 0 }, { name := "LOG2_ARRAY_FLOAT_INDEX_SCALE", type := .int, accessFlags := 25, slot := 8, constantValue := 0 }, { name := "LOG2_ARRAY_DOUBLE_INDEX_SCALE", type := .int, accessFlags := 25, slot := 9, constantValue := 0 }, { name := "LOG2_BYTE_BIT_SIZE", type := .int, accessFlags := 26, slot := 10, constantValue := 0 }, { name := "T_BOOLEAN", type := .int, accessFlags := 25, slot := 11, constantValue := 0 }, { name := "T_CHAR", type := .int, accessFlags := 25, slot := 12, constantValue := 0 }, { name := "T_FLOAT", type := .int, accessFlags := 25, slot := 13, constantValue := 0 }, { name := "T_DOUBLE", type := .int, accessFlags := 25, slot := 14, constantValue := 0 }, { name := "T_BYTE", type := .int, accessFlags := 25, slot := 15, constantValue := 0 }, { name := "T_SHORT", type := .int, accessFlags := 25, slot := 16, constantValue := 0 }, { name := "T_INT", type := .int, accessFlags := 25, slot := 17, constantValue := 0 }, { name := "T_LONG", type := .int, accessFlags := 25, slot := 18, constantValue := 0 }, { name := "JLA", type := (.object "jdk/internal/access/JavaLangAccess"), accessFlags := 26, slot := 19, constantValue := 0 }, { name := "SOFT_MAX_ARRAY_LENGTH", type := .int, accessFlags := 25, slot := 20, constantValue := 0 }]
  methods := #[k33m0]
  instanceTypes := #[]
  staticTypes := #[(.object "jdk/internal/misc/Unsafe"), .boolean, .int, .int, .int, .int, .int, .int, .int, .int, .int, .int, .int, .int, .int, .int, .int, .int, .int, (.object "jdk/internal/access/JavaLangAccess"), .int]
  resolved := Array.replicate 378 none
  statics := none }

def pool34 : Array CpInfo := pool [(19, .class_ 20), (0, u "java/util/Comparator"), (84, .class_ 106), (0, u "java/lang/Object")] 181

/-- java/util/Comparator -/
def k34 : Class := { plain "java/util/Comparator" (some 0) with
  accessFlags := 1537
  interfaces := #[]
  cf := some (fileOf pool34 19 #[] #[] 1537 105 #[] #[])
  fields := #[]
  methods := #[]
  instanceTypes := #[]
  staticTypes := #[]
  resolved := Array.replicate 288 none
  statics := none }

def pool35 : Array CpInfo := pool [(1, .class_ 2), (0, u "java/lang/String"), (1, .class_ 6), (1, u "java/lang/Object"), (0, u "<init>"), (0, u "()V"), (28, .class_ 39), (1, u "java/lang/String$CaseInsensitiveComparator"), (2, .class_ 43), (0, u "java/util/Comparator"), (0, .class_ 45), (0, u "java/io/Serializable"), (0, u "serialVersionUID"), (0, u "J")] 27

def k35m0 : Method := { name := "<init>", desc := "()V", sig := { parameters := [], returnType := none }, accessFlags := 2, code := none }
/-- java/lang/String$CaseInsensitiveComparator -/
def k35 : Class := { plain "java/lang/String$CaseInsensitiveComparator" (some 0) with
  accessFlags := 32
  interfaces := #[34, 2]
  cf := some (fileOf pool35 37 #[.nestHost 1] #[{ accessFlags := 2, nameIndex := 7, descriptorIndex := 8, attributes := #[] }] 32 4 #[42, 44] #[{ accessFlags := 26, nameIndex := 46, descriptorIndex := 47, attributes := #[] }])
  fields := #[{ name := "serialVersionUID", type := .long, accessFlags := 26, slot := 0, constantValue := 0 }]
  methods := #[k35m0]
  instanceTypes := #[]
  staticTypes := #[.long]
  resolved := Array.replicate 75 none
  statics := none }

def pool36 : Array CpInfo := pool [(1, u "java/lang/Class"), (0, .class_ 1), (0, u "java/lang/Object"), (0, .class_ 3)] 0

/-- java/lang/Class -/
def k36 : Class := { plain "java/lang/Class" (some 0) with
  accessFlags := 49
  interfaces := #[]
  cf := some (fileOf pool36 2 #[] #[] 49 4 #[] #[])
  fields := #[]
  methods := #[]
  instanceTypes := #[]
  staticTypes := #[]
  resolved := Array.replicate 5 none
  statics := none }

/-- the primitive byte -/
def k37 : Class := { plain "byte" none with kind := .primitive 'B', accessFlags := 0x411 }
/-- [B -/
def k38 : Class := { plain "[B" (some 0) with kind := .array 37 .byte, interfaces := #[14, 2], accessFlags := 1041 }

/-- the primitive char -/
def k39 : Class := { plain "char" none with kind := .primitive 'C', accessFlags := 0x411 }
/-- [C -/
def k40 : Class := { plain "[C" (some 0) with kind := .array 39 .char, interfaces := #[14, 2], accessFlags := 1041 }

/-- the primitive int -/
def k41 : Class := { plain "int" none with kind := .primitive 'I', accessFlags := 0x411 }
/-- [I -/
def k42 : Class := { plain "[I" (some 0) with kind := .array 41 .int, interfaces := #[14, 2], accessFlags := 1041 }

def classes0 : Array Class := #[k0, k1, k2, k3, k4, k5, k6, k7, k8, k9, k10, k11, k12, k13, k14, k15, k16, k17, k18, k19, k20, k21, k22, k23, k24, k25, k26, k27, k28, k29, k30, k31, k32, k33, k34, k35, k36, k37, k38, k39, k40, k41, k42]
/-- the class that the rule has made for the site at 13 of com/example/gate_to_handlers/gatetohandlers/HttpHeaders.readOnly -/
def k43 : Class := Jvm.LamKit.madeRec { classes := classes0 } "com/example/gate_to_handlers/gatetohandlers/HttpHeaders" (Jvm.Lambda.Shape.mk "java/util/function/BiConsumer" "accept" (Jvm.ClassFile.MethodDescriptor.mk ([(Jvm.ClassFile.FieldType.object "java/lang/Object"), (Jvm.ClassFile.FieldType.object "java/lang/Object")] : List Jvm.ClassFile.FieldType) (Option.none : Option Jvm.ClassFile.FieldType)) ([(Jvm.ClassFile.FieldType.object "java/util/Map")] : List Jvm.ClassFile.FieldType) (6 : Nat) "com/example/gate_to_handlers/gatetohandlers/HttpHeaders" "lambda$readOnly$0" (Jvm.ClassFile.MethodDescriptor.mk ([(Jvm.ClassFile.FieldType.object "java/util/Map"), (Jvm.ClassFile.FieldType.object "java/lang/String"), (Jvm.ClassFile.FieldType.object "java/util/List")] : List Jvm.ClassFile.FieldType) (Option.none : Option Jvm.ClassFile.FieldType)) false (Jvm.ClassFile.MethodDescriptor.mk ([(Jvm.ClassFile.FieldType.object "java/lang/String"), (Jvm.ClassFile.FieldType.object "java/util/List")] : List Jvm.ClassFile.FieldType) (Option.none : Option Jvm.ClassFile.FieldType))) 43

def heap : Heap := #[{ cls := 7, slots := #[.long 0, .int 1, .null, .int 0, .ref 4, .int 0, .int 0], vm := .statics 7 },
  { cls := 32, slots := #[.null, .null, .null], vm := .statics 32 },
  { cls := 36, slots := #[], vm := .mirror 15 },
  { cls := 36, slots := #[], vm := .mirror 29 },
  { cls := 35, slots := #[], vm := .none }]
def classes : Array Class := #[k0, k1, k2, k3, k4, k5, k6, k7, k8, k9, k10, k11, k12, k13, k14, k15, k16, k17, k18, k19, k20, k21, k22, k23, k24, k25, k26, k27, k28, k29, k30, k31, k32, k33, k34, k35, k36, k37, k38, k39, k40, k41, k42, k43]
def interned : List (Array UInt16 × Addr) := []
def slotsUsed : Nat := 10
def theMethod : MethodId := ⟨1, 1⟩
def args0 : Array Value := #[.int 7, .int 11, .int 13, .int 3]
def aboutOver (below : List Frame) : State where
  vm := { classes := classes, interned := interned.toArray }
  heap := heap
  slotsUsed := slotsUsed
  threads := #[{ frames := .invoking theMethod args0 :: below }]
def below0 : List Frame := [.native { method := ⟨0, 0⟩, args := #[] }]
def about1 : State := aboutOver below0
def p0 : Program := .bare "" "" ""
def e0 : Env := launch0.env 0 0 0
theorem w_frames : about1.frames = Frame.invoking theMethod args0 :: below0 := rfl
set_option maxRecDepth 65536 in
theorem w_args : argsFit about1.vm theMethod args0 = true := by decide +kernel
set_option maxRecDepth 65536 in
theorem w_heap : heapFits about1 = true := by decide +kernel
set_option maxRecDepth 65536 in
theorem w_runnable : about1.curStatus? = some .runnable := by decide +kernel
set_option maxRecDepth 65536 in
theorem w_alone : about1.alone = true := by decide +kernel
set_option maxRecDepth 65536 in
theorem w_named : about1.methodNamed? x = some theMethod := by decide +kernel
set_option maxRecDepth 65536 in
theorem w_hears : about1.hears theMethod below0 = true := by decide +kernel
set_option maxRecDepth 65536 in
theorem w_ripe : about1.ripe theMethod args0 below0 = true := by decide +kernel
theorem w_running : about1.status = .running := rfl
set_option maxRecDepth 65536 in
theorem w_room : about1.hasRoom e0.platform room_1 = true :=
  launch0.hasRoom_least _ room_1 (by decide +kernel) (by decide +kernel) (by decide +kernel) (by decide +kernel) (by decide +kernel) (by decide +kernel)
theorem allAtoms_all (ts : List Jvm.Cond) (a : Array Jvm.Value) (st : Jvm.State) : (allAtoms ts).before a st = ts.all (fun c => c.before a st) := by
  induction ts with
  | nil => rfl
  | cons c t ih =>
    show (Jvm.Cond.and c (allAtoms t)).before a st = _
    rw [Jvm.Cond.before_and, ih, List.all_cons]
def words1 : List Jvm.Cond := Jvm.Cond.code x code maxLocals ret :: tables_1
/-- a 'code' word, met by the world's own term for the bytes: nothing is compared byte by byte -/
theorem code_word {y : MethodName} {bytes : ByteArray} {mx : Nat} {rt : Option FieldType} {a : Array Value} {s : State} {m : MethodId} {meth : Method} {c : Code} (h1 : s.methodNamed? y = some m) (h2 : s.vm.method? m = some meth) (h3 : meth.code = some c) (h4 : c.code = bytes)
    (h5 : (c.maxLocals == mx && c.exceptionTable.isEmpty && decide (c.maxStack ≤ mostOperands) && decide (meth.sig.returnType = rt) && !meth.locks && decide (parseMethodDescriptor y.desc = some meth.sig)) = true) : (Jvm.Cond.code y bytes mx rt).before a s = true := by
  simp only [Bool.and_eq_true, beq_iff_eq, Bool.not_eq_true', decide_eq_true_eq] at h5
  obtain ⟨⟨⟨⟨⟨g1, g2⟩, g3⟩, g4⟩, g5⟩, g6⟩ := h5
  simp [Cond.before, Cond.holds, Cond.value, h1, h2, h3, h4, g1, g2, g3, g4, g5, g6]
def isCode : Jvm.Cond → Bool
  | .code _ _ _ _ => true
  | _ => false
theorem all_split {L : List Jvm.Cond} {P : Jvm.Cond → Bool} (h1 : L.all (fun c => isCode c || P c) = true) (h2 : ∀ c ∈ L.filter isCode, P c = true) : L.all P = true := by
  refine List.all_eq_true.mpr fun c hc => ?_
  have h := List.all_eq_true.mp h1 c hc
  rcases Bool.eq_false_or_eq_true (isCode c) with hi | hi
  · exact h2 c (List.mem_filter.mpr ⟨hc, hi⟩)
  · simpa [hi] using h
set_option maxRecDepth 65536 in
theorem w_c0 : (Jvm.Cond.code x code maxLocals ret).before args0 about1 = true := code_word (m := ⟨1, 1⟩) (meth := k1m1) (c := k1c1) (by decide +kernel) rfl rfl rfl (by decide +kernel)
set_option maxRecDepth 65536 in
theorem w_c1 : (Jvm.Cond.code ({ cls := "java/lang/String", name := "<init>", desc := "([C)V" } : Jvm.MethodName) jdk_42_method_3_code (2 : Nat) (Option.none : Option Jvm.ClassFile.FieldType)).before args0 about1 = true := code_word (m := ⟨7, 1⟩) (meth := k7m1) (c := k7c1) (by decide +kernel) rfl rfl rfl (by decide +kernel)
set_option maxRecDepth 65536 in
theorem w_c2 : (Jvm.Cond.code ({ cls := "java/lang/String", name := "<init>", desc := "([CIILjava/lang/Void;)V" } : Jvm.MethodName) jdk_42_method_149_code (6 : Nat) (Option.none : Option Jvm.ClassFile.FieldType)).before args0 about1 = true := code_word (m := ⟨7, 2⟩) (meth := k7m2) (c := k7c2) (by decide +kernel) rfl rfl rfl (by decide +kernel)
set_option maxRecDepth 65536 in
theorem w_c3 : (Jvm.Cond.code ({ cls := "java/lang/Object", name := "<init>", desc := "()V" } : Jvm.MethodName) object_method_1_code (1 : Nat) (Option.none : Option Jvm.ClassFile.FieldType)).before args0 about1 = true := code_word (m := ⟨0, 0⟩) (meth := k0m0) (c := k0c0) (by decide +kernel) rfl rfl rfl (by decide +kernel)
set_option maxRecDepth 65536 in
theorem w_c4 : (Jvm.Cond.code ({ cls := "com/example/gate_to_handlers/gatetohandlers/HttpHeaders", name := "<init>", desc := "()V" } : Jvm.MethodName) prog_58_method_1_code (1 : Nat) (Option.none : Option Jvm.ClassFile.FieldType)).before args0 about1 = true := code_word (m := ⟨9, 0⟩) (meth := k9m0) (c := k9c0) (by decide +kernel) rfl rfl rfl (by decide +kernel)
set_option maxRecDepth 65536 in
theorem w_c5 : (Jvm.Cond.code ({ cls := "java/util/TreeMap", name := "<init>", desc := "(Ljava/util/Comparator;)V" } : Jvm.MethodName) jdk_2729_method_2_code (2 : Nat) (Option.none : Option Jvm.ClassFile.FieldType)).before args0 about1 = true := code_word (m := ⟨15, 1⟩) (meth := k15m1) (c := k15c1) (by decide +kernel) rfl rfl rfl (by decide +kernel)
set_option maxRecDepth 65536 in
theorem w_c6 : (Jvm.Cond.code ({ cls := "java/util/AbstractMap", name := "<init>", desc := "()V" } : Jvm.MethodName) jdk_71_method_1_code (1 : Nat) (Option.none : Option Jvm.ClassFile.FieldType)).before args0 about1 = true := code_word (m := ⟨10, 0⟩) (meth := k10m0) (c := k10c0) (by decide +kernel) rfl rfl rfl (by decide +kernel)
set_option maxRecDepth 65536 in
theorem w_c7 : (Jvm.Cond.code ({ cls := "com/example/gate_to_handlers/gatetohandlers/HttpHeaders", name := "<init>", desc := "(Ljava/util/Map;)V" } : Jvm.MethodName) prog_58_method_2_code (2 : Nat) (Option.none : Option Jvm.ClassFile.FieldType)).before args0 about1 = true := code_word (m := ⟨9, 1⟩) (meth := k9m1) (c := k9c1) (by decide +kernel) rfl rfl rfl (by decide +kernel)
set_option maxRecDepth 65536 in
theorem w_c8 : (Jvm.Cond.code ({ cls := "com/example/gate_to_handlers/gatetohandlers/HttpEntity", name := "<init>", desc := "()V" } : Jvm.MethodName) prog_56_method_1_code (1 : Nat) (Option.none : Option Jvm.ClassFile.FieldType)).before args0 about1 = true := code_word (m := ⟨16, 0⟩) (meth := k16m0) (c := k16c0) (by decide +kernel) rfl rfl rfl (by decide +kernel)
set_option maxRecDepth 65536 in
theorem w_c9 : (Jvm.Cond.code ({ cls := "com/example/gate_to_handlers/gatetohandlers/HttpEntity", name := "<init>", desc := "(Ljava/lang/Object;Lcom/example/gate_to_handlers/gatetohandlers/HttpHeaders;)V" } : Jvm.MethodName) prog_56_method_4_code (3 : Nat) (Option.none : Option Jvm.ClassFile.FieldType)).before args0 about1 = true := code_word (m := ⟨16, 3⟩) (meth := k16m3) (c := k16c3) (by decide +kernel) rfl rfl rfl (by decide +kernel)
set_option maxRecDepth 65536 in
theorem w_c10 : (Jvm.Cond.code ({ cls := "com/example/gate_to_handlers/gatetohandlers/HttpHeaders", name := "readOnly", desc := "(Lcom/example/gate_to_handlers/gatetohandlers/HttpHeaders;)Lcom/example/gate_to_handlers/gatetohandlers/HttpHeaders;" } : Jvm.MethodName) prog_58_method_3_code (2 : Nat) (Option.some (Jvm.ClassFile.FieldType.object "com/example/gate_to_handlers/gatetohandlers/HttpHeaders"))).before args0 about1 = true := code_word (m := ⟨9, 2⟩) (meth := k9m2) (c := k9c2) (by decide +kernel) rfl rfl rfl (by decide +kernel)
set_option maxRecDepth 65536 in
theorem w_c11 : (Jvm.Cond.code ({ cls := "java/util/Objects", name := "requireNonNull", desc := "(Ljava/lang/Object;)Ljava/lang/Object;" } : Jvm.MethodName) jdk_31_method_10_code (1 : Nat) (Option.some (Jvm.ClassFile.FieldType.object "java/lang/Object"))).before args0 about1 = true := code_word (m := ⟨18, 1⟩) (meth := k18m1) (c := k18c1) (by decide +kernel) rfl rfl rfl (by decide +kernel)
set_option maxRecDepth 65536 in
theorem w_c12 : (Jvm.Cond.code ({ cls := "com/example/gate_to_handlers/gatetohandlers/HttpHeaders", name := "entrySet", desc := "()Ljava/util/Set;" } : Jvm.MethodName) prog_58_method_26_code (1 : Nat) (Option.some (Jvm.ClassFile.FieldType.object "java/util/Set"))).before args0 about1 = true := code_word (m := ⟨9, 3⟩) (meth := k9m3) (c := k9c3) (by decide +kernel) rfl rfl rfl (by decide +kernel)
set_option maxRecDepth 65536 in
theorem w_c13 : (Jvm.Cond.code ({ cls := "java/util/TreeMap", name := "entrySet", desc := "()Ljava/util/Set;" } : Jvm.MethodName) jdk_2729_method_53_code (2 : Nat) (Option.some (Jvm.ClassFile.FieldType.object "java/util/Set"))).before args0 about1 = true := code_word (m := ⟨15, 2⟩) (meth := k15m2) (c := k15c2) (by decide +kernel) rfl rfl rfl (by decide +kernel)
set_option maxRecDepth 65536 in
theorem w_c14 : (Jvm.Cond.code ({ cls := "java/util/TreeMap$EntrySet", name := "<init>", desc := "(Ljava/util/TreeMap;)V" } : Jvm.MethodName) jdk_2738_method_1_code (2 : Nat) (Option.none : Option Jvm.ClassFile.FieldType)).before args0 about1 = true := code_word (m := ⟨24, 0⟩) (meth := k24m0) (c := k24c0) (by decide +kernel) rfl rfl rfl (by decide +kernel)
set_option maxRecDepth 65536 in
theorem w_c15 : (Jvm.Cond.code ({ cls := "java/util/AbstractSet", name := "<init>", desc := "()V" } : Jvm.MethodName) jdk_91_method_1_code (1 : Nat) (Option.none : Option Jvm.ClassFile.FieldType)).before args0 about1 = true := code_word (m := ⟨23, 0⟩) (meth := k23m0) (c := k23c0) (by decide +kernel) rfl rfl rfl (by decide +kernel)
set_option maxRecDepth 65536 in
theorem w_c16 : (Jvm.Cond.code ({ cls := "java/util/AbstractCollection", name := "<init>", desc := "()V" } : Jvm.MethodName) jdk_22_method_1_code (1 : Nat) (Option.none : Option Jvm.ClassFile.FieldType)).before args0 about1 = true := code_word (m := ⟨21, 0⟩) (meth := k21m0) (c := k21c0) (by decide +kernel) rfl rfl rfl (by decide +kernel)
set_option maxRecDepth 65536 in
theorem w_c17 : (Jvm.Cond.code ({ cls := "java/util/TreeMap$EntrySet", name := "iterator", desc := "()Ljava/util/Iterator;" } : Jvm.MethodName) jdk_2738_method_2_code (1 : Nat) (Option.some (Jvm.ClassFile.FieldType.object "java/util/Iterator"))).before args0 about1 = true := code_word (m := ⟨24, 1⟩) (meth := k24m1) (c := k24c1) (by decide +kernel) rfl rfl rfl (by decide +kernel)
set_option maxRecDepth 65536 in
theorem w_c18 : (Jvm.Cond.code ({ cls := "java/util/TreeMap", name := "getFirstEntry", desc := "()Ljava/util/TreeMap$Entry;" } : Jvm.MethodName) jdk_2729_method_72_code (2 : Nat) (Option.some (Jvm.ClassFile.FieldType.object "java/util/TreeMap$Entry"))).before args0 about1 = true := code_word (m := ⟨15, 3⟩) (meth := k15m3) (c := k15c3) (by decide +kernel) rfl rfl rfl (by decide +kernel)
set_option maxRecDepth 65536 in
theorem w_c19 : (Jvm.Cond.code ({ cls := "java/util/TreeMap$EntryIterator", name := "<init>", desc := "(Ljava/util/TreeMap;Ljava/util/TreeMap$Entry;)V" } : Jvm.MethodName) jdk_2737_method_1_code (3 : Nat) (Option.none : Option Jvm.ClassFile.FieldType)).before args0 about1 = true := code_word (m := ⟨27, 0⟩) (meth := k27m0) (c := k27c0) (by decide +kernel) rfl rfl rfl (by decide +kernel)
set_option maxRecDepth 65536 in
theorem w_c20 : (Jvm.Cond.code ({ cls := "java/util/TreeMap$PrivateEntryIterator", name := "<init>", desc := "(Ljava/util/TreeMap;Ljava/util/TreeMap$Entry;)V" } : Jvm.MethodName) jdk_2750_method_1_code (3 : Nat) (Option.none : Option Jvm.ClassFile.FieldType)).before args0 about1 = true := code_word (m := ⟨26, 0⟩) (meth := k26m0) (c := k26c0) (by decide +kernel) rfl rfl rfl (by decide +kernel)
set_option maxRecDepth 65536 in
theorem w_c21 : (Jvm.Cond.code ({ cls := "java/util/TreeMap$PrivateEntryIterator", name := "hasNext", desc := "()Z" } : Jvm.MethodName) jdk_2750_method_2_code (1 : Nat) (Option.some Jvm.ClassFile.FieldType.boolean)).before args0 about1 = true := code_word (m := ⟨26, 1⟩) (meth := k26m1) (c := k26c1) (by decide +kernel) rfl rfl rfl (by decide +kernel)
set_option maxRecDepth 65536 in
theorem w_c22 : (Jvm.Cond.code ({ cls := "java/util/Collections", name := "unmodifiableMap", desc := "(Ljava/util/Map;)Ljava/util/Map;" } : Jvm.MethodName) jdk_79_method_36_code (1 : Nat) (Option.some (Jvm.ClassFile.FieldType.object "java/util/Map"))).before args0 about1 = true := code_word (m := ⟨28, 1⟩) (meth := k28m1) (c := k28c1) (by decide +kernel) rfl rfl rfl (by decide +kernel)
set_option maxRecDepth 65536 in
theorem w_c23 : (Jvm.Cond.code ({ cls := "java/util/Collections$UnmodifiableMap", name := "<init>", desc := "(Ljava/util/Map;)V" } : Jvm.MethodName) jdk_2500_method_1_code (2 : Nat) (Option.none : Option Jvm.ClassFile.FieldType)).before args0 about1 = true := code_word (m := ⟨29, 0⟩) (meth := k29m0) (c := k29c0) (by decide +kernel) rfl rfl rfl (by decide +kernel)
set_option maxRecDepth 65536 in
theorem w_c24 : (Jvm.Cond.code ({ cls := "com/example/gate_to_handlers/gatetohandlers/HttpEntity", name := "hasBody", desc := "()Z" } : Jvm.MethodName) prog_56_method_7_code (1 : Nat) (Option.some Jvm.ClassFile.FieldType.boolean)).before args0 about1 = true := code_word (m := ⟨16, 5⟩) (meth := k16m5) (c := k16c5) (by decide +kernel) rfl rfl rfl (by decide +kernel)
set_option maxRecDepth 65536 in
theorem w_c25 : (Jvm.Cond.code ({ cls := "com/example/gate_to_handlers/gatetohandlers/HttpEntity", name := "getBody", desc := "()Ljava/lang/Object;" } : Jvm.MethodName) prog_56_method_6_code (1 : Nat) (Option.some (Jvm.ClassFile.FieldType.object "java/lang/Object"))).before args0 about1 = true := code_word (m := ⟨16, 4⟩) (meth := k16m4) (c := k16c4) (by decide +kernel) rfl rfl rfl (by decide +kernel)
set_option maxRecDepth 65536 in
theorem w_c26 : (Jvm.Cond.code ({ cls := "com/example/gate_to_handlers/gatetohandlers/HttpEntity", name := "<init>", desc := "(Lcom/example/gate_to_handlers/gatetohandlers/HttpHeaders;)V" } : Jvm.MethodName) prog_56_method_3_code (2 : Nat) (Option.none : Option Jvm.ClassFile.FieldType)).before args0 about1 = true := code_word (m := ⟨16, 2⟩) (meth := k16m2) (c := k16c2) (by decide +kernel) rfl rfl rfl (by decide +kernel)
set_option maxRecDepth 65536 in
theorem w_c27 : (Jvm.Cond.code ({ cls := "com/example/gate_to_handlers/gatetohandlers/HttpEntity", name := "<init>", desc := "(Ljava/lang/Object;)V" } : Jvm.MethodName) prog_56_method_2_code (2 : Nat) (Option.none : Option Jvm.ClassFile.FieldType)).before args0 about1 = true := code_word (m := ⟨16, 1⟩) (meth := k16m1) (c := k16c1) (by decide +kernel) rfl rfl rfl (by decide +kernel)
set_option maxRecDepth 65536 in
theorem w_c28 : (Jvm.Cond.code ({ cls := "java/lang/StringUTF16", name := "compress", desc := "([CII)[B" } : Jvm.MethodName) jdk_52_method_16_code (6 : Nat) (Option.some (Jvm.ClassFile.FieldType.array Jvm.ClassFile.FieldType.byte))).before args0 about1 = true := code_word (m := ⟨30, 2⟩) (meth := k30m2) (c := k30c2) (by decide +kernel) rfl rfl rfl (by decide +kernel)
set_option maxRecDepth 65536 in
theorem w_c29 : (Jvm.Cond.code ({ cls := "java/lang/StringUTF16", name := "compress", desc := "([CI[BII)I" } : Jvm.MethodName) jdk_52_method_21_code (7 : Nat) (Option.some Jvm.ClassFile.FieldType.int)).before args0 about1 = true := code_word (m := ⟨30, 3⟩) (meth := k30m3) (c := k30c3) (by decide +kernel) rfl rfl rfl (by decide +kernel)
set_option maxRecDepth 65536 in
theorem w_c30 : (Jvm.Cond.code ({ cls := "java/lang/StringUTF16", name := "coderFromArrayLen", desc := "([BI)B" } : Jvm.MethodName) jdk_52_method_15_code (2 : Nat) (Option.some Jvm.ClassFile.FieldType.byte)).before args0 about1 = true := code_word (m := ⟨30, 1⟩) (meth := k30m1) (c := k30c1) (by decide +kernel) rfl rfl rfl (by decide +kernel)
def codes1 : List Jvm.Cond := [Jvm.Cond.code x code maxLocals ret, Jvm.Cond.code ({ cls := "java/lang/String", name := "<init>", desc := "([C)V" } : Jvm.MethodName) jdk_42_method_3_code (2 : Nat) (Option.none : Option Jvm.ClassFile.FieldType), Jvm.Cond.code ({ cls := "java/lang/String", name := "<init>", desc := "([CIILjava/lang/Void;)V" } : Jvm.MethodName) jdk_42_method_149_code (6 : Nat) (Option.none : Option Jvm.ClassFile.FieldType), Jvm.Cond.code ({ cls := "java/lang/Object", name := "<init>", desc := "()V" } : Jvm.MethodName) object_method_1_code (1 : Nat) (Option.none : Option Jvm.ClassFile.FieldType), Jvm.Cond.code ({ cls := "com/example/gate_to_handlers/gatetohandlers/HttpHeaders", name := "<init>", desc := "()V" } : Jvm.MethodName) prog_58_method_1_code (1 : Nat) (Option.none : Option Jvm.ClassFile.FieldType), Jvm.Cond.code ({ cls := "java/util/TreeMap", name := "<init>", desc := "(Ljava/util/Comparator;)V" } : Jvm.MethodName) jdk_2729_method_2_code (2 : Nat) (Option.none : Option Jvm.ClassFile.FieldType), Jvm.Cond.code ({ cls := "java/util/AbstractMap", name := "<init>", desc := "()V" } : Jvm.MethodName) jdk_71_method_1_code (1 : Nat) (Option.none : Option Jvm.ClassFile.FieldType), Jvm.Cond.code ({ cls := "com/example/gate_to_handlers/gatetohandlers/HttpHeaders", name := "<init>", desc := "(Ljava/util/Map;)V" } : Jvm.MethodName) prog_58_method_2_code (2 : Nat) (Option.none : Option Jvm.ClassFile.FieldType), Jvm.Cond.code ({ cls := "com/example/gate_to_handlers/gatetohandlers/HttpEntity", name := "<init>", desc := "()V" } : Jvm.MethodName) prog_56_method_1_code (1 : Nat) (Option.none : Option Jvm.ClassFile.FieldType), Jvm.Cond.code ({ cls := "com/example/gate_to_handlers/gatetohandlers/HttpEntity", name := "<init>", desc := "(Ljava/lang/Object;Lcom/example/gate_to_handlers/gatetohandlers/HttpHeaders;)V" } : Jvm.MethodName) prog_56_method_4_code (3 : Nat) (Option.none : Option Jvm.ClassFile.FieldType), Jvm.Cond.code ({ cls := "com/example/gate_to_handlers/gatetohandlers/HttpHeaders", name := "readOnly", desc := "(Lcom/example/gate_to_handlers/gatetohandlers/HttpHeaders;)Lcom/example/gate_to_handlers/gatetohandlers/HttpHeaders;" } : Jvm.MethodName) prog_58_method_3_code (2 : Nat) (Option.some (Jvm.ClassFile.FieldType.object "com/example/gate_to_handlers/gatetohandlers/HttpHeaders")), Jvm.Cond.code ({ cls := "java/util/Objects", name := "requireNonNull", desc := "(Ljava/lang/Object;)Ljava/lang/Object;" } : Jvm.MethodName) jdk_31_method_10_code (1 : Nat) (Option.some (Jvm.ClassFile.FieldType.object "java/lang/Object")), Jvm.Cond.code ({ cls := "com/example/gate_to_handlers/gatetohandlers/HttpHeaders", name := "entrySet", desc := "()Ljava/util/Set;" } : Jvm.MethodName) prog_58_method_26_code (1 : Nat) (Option.some (Jvm.ClassFile.FieldType.object "java/util/Set")), Jvm.Cond.code ({ cls := "java/util/TreeMap", name := "entrySet", desc := "()Ljava/util/Set;" } : Jvm.MethodName) jdk_2729_method_53_code (2 : Nat) (Option.some (Jvm.ClassFile.FieldType.object "java/util/Set")), Jvm.Cond.code ({ cls := "java/util/TreeMap$EntrySet", name := "<init>", desc := "(Ljava/util/TreeMap;)V" } : Jvm.MethodName) jdk_2738_method_1_code (2 : Nat) (Option.none : Option Jvm.ClassFile.FieldType), Jvm.Cond.code ({ cls := "java/util/AbstractSet", name := "<init>", desc := "()V" } : Jvm.MethodName) jdk_91_method_1_code (1 : Nat) (Option.none : Option Jvm.ClassFile.FieldType), Jvm.Cond.code ({ cls := "java/util/AbstractCollection", name := "<init>", desc := "()V" } : Jvm.MethodName) jdk_22_method_1_code (1 : Nat) (Option.none : Option Jvm.ClassFile.FieldType), Jvm.Cond.code ({ cls := "java/util/TreeMap$EntrySet", name := "iterator", desc := "()Ljava/util/Iterator;" } : Jvm.MethodName) jdk_2738_method_2_code (1 : Nat) (Option.some (Jvm.ClassFile.FieldType.object "java/util/Iterator")), Jvm.Cond.code ({ cls := "java/util/TreeMap", name := "getFirstEntry", desc := "()Ljava/util/TreeMap$Entry;" } : Jvm.MethodName) jdk_2729_method_72_code (2 : Nat) (Option.some (Jvm.ClassFile.FieldType.object "java/util/TreeMap$Entry")), Jvm.Cond.code ({ cls := "java/util/TreeMap$EntryIterator", name := "<init>", desc := "(Ljava/util/TreeMap;Ljava/util/TreeMap$Entry;)V" } : Jvm.MethodName) jdk_2737_method_1_code (3 : Nat) (Option.none : Option Jvm.ClassFile.FieldType), Jvm.Cond.code ({ cls := "java/util/TreeMap$PrivateEntryIterator", name := "<init>", desc := "(Ljava/util/TreeMap;Ljava/util/TreeMap$Entry;)V" } : Jvm.MethodName) jdk_2750_method_1_code (3 : Nat) (Option.none : Option Jvm.ClassFile.FieldType), Jvm.Cond.code ({ cls := "java/util/TreeMap$PrivateEntryIterator", name := "hasNext", desc := "()Z" } : Jvm.MethodName) jdk_2750_method_2_code (1 : Nat) (Option.some Jvm.ClassFile.FieldType.boolean), Jvm.Cond.code ({ cls := "java/util/Collections", name := "unmodifiableMap", desc := "(Ljava/util/Map;)Ljava/util/Map;" } : Jvm.MethodName) jdk_79_method_36_code (1 : Nat) (Option.some (Jvm.ClassFile.FieldType.object "java/util/Map")), Jvm.Cond.code ({ cls := "java/util/Collections$UnmodifiableMap", name := "<init>", desc := "(Ljava/util/Map;)V" } : Jvm.MethodName) jdk_2500_method_1_code (2 : Nat) (Option.none : Option Jvm.ClassFile.FieldType), Jvm.Cond.code ({ cls := "com/example/gate_to_handlers/gatetohandlers/HttpEntity", name := "hasBody", desc := "()Z" } : Jvm.MethodName) prog_56_method_7_code (1 : Nat) (Option.some Jvm.ClassFile.FieldType.boolean), Jvm.Cond.code ({ cls := "com/example/gate_to_handlers/gatetohandlers/HttpEntity", name := "getBody", desc := "()Ljava/lang/Object;" } : Jvm.MethodName) prog_56_method_6_code (1 : Nat) (Option.some (Jvm.ClassFile.FieldType.object "java/lang/Object")), Jvm.Cond.code ({ cls := "com/example/gate_to_handlers/gatetohandlers/HttpEntity", name := "<init>", desc := "(Lcom/example/gate_to_handlers/gatetohandlers/HttpHeaders;)V" } : Jvm.MethodName) prog_56_method_3_code (2 : Nat) (Option.none : Option Jvm.ClassFile.FieldType), Jvm.Cond.code ({ cls := "com/example/gate_to_handlers/gatetohandlers/HttpEntity", name := "<init>", desc := "(Ljava/lang/Object;)V" } : Jvm.MethodName) prog_56_method_2_code (2 : Nat) (Option.none : Option Jvm.ClassFile.FieldType), Jvm.Cond.code ({ cls := "java/lang/StringUTF16", name := "compress", desc := "([CII)[B" } : Jvm.MethodName) jdk_52_method_16_code (6 : Nat) (Option.some (Jvm.ClassFile.FieldType.array Jvm.ClassFile.FieldType.byte)), Jvm.Cond.code ({ cls := "java/lang/StringUTF16", name := "compress", desc := "([CI[BII)I" } : Jvm.MethodName) jdk_52_method_21_code (7 : Nat) (Option.some Jvm.ClassFile.FieldType.int), Jvm.Cond.code ({ cls := "java/lang/StringUTF16", name := "coderFromArrayLen", desc := "([BI)B" } : Jvm.MethodName) jdk_52_method_15_code (2 : Nat) (Option.some Jvm.ClassFile.FieldType.byte)]
set_option maxRecDepth 65536 in
theorem codes_eq : words1.filter isCode = codes1 := rfl
theorem w_codes : ∀ c ∈ words1.filter isCode, c.before args0 about1 = true := by
  rw [codes_eq]
  intro c hc
  simp only [codes1, List.mem_cons, List.not_mem_nil, or_false] at hc
  rcases hc with rfl | rfl | rfl | rfl | rfl | rfl | rfl | rfl | rfl | rfl | rfl | rfl | rfl | rfl | rfl | rfl | rfl | rfl | rfl | rfl | rfl | rfl | rfl | rfl | rfl | rfl | rfl | rfl | rfl | rfl | rfl
  · exact w_c0
  · exact w_c1
  · exact w_c2
  · exact w_c3
  · exact w_c4
  · exact w_c5
  · exact w_c6
  · exact w_c7
  · exact w_c8
  · exact w_c9
  · exact w_c10
  · exact w_c11
  · exact w_c12
  · exact w_c13
  · exact w_c14
  · exact w_c15
  · exact w_c16
  · exact w_c17
  · exact w_c18
  · exact w_c19
  · exact w_c20
  · exact w_c21
  · exact w_c22
  · exact w_c23
  · exact w_c24
  · exact w_c25
  · exact w_c26
  · exact w_c27
  · exact w_c28
  · exact w_c29
  · exact w_c30
set_option maxRecDepth 65536 in
theorem w_t1 : (words1.take 24).all (fun c => isCode c || c.before args0 about1) = true := by decide +kernel
set_option maxRecDepth 65536 in
theorem w_t2 : ((words1.drop 24).take 24).all (fun c => isCode c || c.before args0 about1) = true := by decide +kernel
set_option maxRecDepth 65536 in
theorem w_t3 : (((words1.drop 24).drop 24).take 24).all (fun c => isCode c || c.before args0 about1) = true := by decide +kernel
set_option maxRecDepth 65536 in
theorem w_t4 : ((((words1.drop 24).drop 24).drop 24).take 24).all (fun c => isCode c || c.before args0 about1) = true := by decide +kernel
set_option maxRecDepth 65536 in
theorem w_t5 : (((((words1.drop 24).drop 24).drop 24).drop 24).take 24).all (fun c => isCode c || c.before args0 about1) = true := by decide +kernel
set_option maxRecDepth 65536 in
theorem w_t6 : ((((((words1.drop 24).drop 24).drop 24).drop 24).drop 24).take 24).all (fun c => isCode c || c.before args0 about1) = true := by decide +kernel
set_option maxRecDepth 65536 in
theorem w_t7 : (((((((words1.drop 24).drop 24).drop 24).drop 24).drop 24).drop 24).take 24).all (fun c => isCode c || c.before args0 about1) = true := by decide +kernel
set_option maxRecDepth 65536 in
theorem w_t8 : ((((((((words1.drop 24).drop 24).drop 24).drop 24).drop 24).drop 24).drop 24).take 24).all (fun c => isCode c || c.before args0 about1) = true := by decide +kernel
set_option maxRecDepth 65536 in
theorem w_t9 : (((((((((words1.drop 24).drop 24).drop 24).drop 24).drop 24).drop 24).drop 24).drop 24).take 24).all (fun c => isCode c || c.before args0 about1) = true := by decide +kernel
set_option maxRecDepth 65536 in
theorem w_t10 : (((((((((words1.drop 24).drop 24).drop 24).drop 24).drop 24).drop 24).drop 24).drop 24).drop 24).all (fun c => isCode c || c.before args0 about1) = true := by decide +kernel
theorem w_tables : (allAtoms (Jvm.Cond.code x code maxLocals ret :: tables_1)).before args0 about1 = true := by
  rw [allAtoms_all]
  show words1.all (fun c => c.before args0 about1) = true
  refine all_split ?_ w_codes
  rw [← List.take_append_drop 24 words1, List.all_append, w_t1, ← List.take_append_drop 24 (words1.drop 24), List.all_append, w_t2, ← List.take_append_drop 24 ((words1.drop 24).drop 24), List.all_append, w_t3, ← List.take_append_drop 24 (((words1.drop 24).drop 24).drop 24), List.all_append, w_t4, ← List.take_append_drop 24 ((((words1.drop 24).drop 24).drop 24).drop 24), List.all_append, w_t5, ← List.take_append_drop 24 (((((words1.drop 24).drop 24).drop 24).drop 24).drop 24), List.all_append, w_t6, ← List.take_append_drop 24 ((((((words1.drop 24).drop 24).drop 24).drop 24).drop 24).drop 24), List.all_append, w_t7, ← List.take_append_drop 24 (((((((words1.drop 24).drop 24).drop 24).drop 24).drop 24).drop 24).drop 24), List.all_append, w_t8, ← List.take_append_drop 24 ((((((((words1.drop 24).drop 24).drop 24).drop 24).drop 24).drop 24).drop 24).drop 24), List.all_append, w_t9, w_t10]
  rfl
set_option maxRecDepth 65536 in
theorem w_rest : rest_1_c.before args0 about1 = true := by decide +kernel
set_option maxRecDepth 65536 in
theorem w_case : (Jvm.Cond.and given_1 narrow_1).before args0 about1 = true := by decide +kernel
set_option maxRecDepth 65536 in
theorem w_consts : constsHeld consts_1 about1 := Jvm.Lit.constsHeldB_iff.mp (by decide +kernel)
theorem w_applies : (headSpec (Jvm.Cond.code x code maxLocals ret :: tables_1) room_1).applies x e0.platform about1 = true :=
  (Spec.applies_iff w_frames).mpr ⟨w_running, w_runnable, w_alone, w_named, w_hears, w_ripe, w_room, w_tables⟩
theorem atStart : AtStart classFile x code maxLocals ret World_1 tables_1 room_1 Calls_1 rest_1 Pre_1 launch0 p0 e0 about1 theMethod args0 below0 :=
  ⟨lists_1, trivial, launch0.admits_env _ _ _, launch0.least_env, fairChoices_fair.cas, fairChoices_fair.clock, w_frames, w_args, w_heap, w_applies, ⟨⟨15, k15, 2, by decide +kernel, rfl, rfl, _, rfl, rfl⟩, ⟨⟨29, k29, 3, by decide +kernel, rfl, rfl, _, rfl, rfl⟩, ⟨w_consts, trivial⟩⟩⟩, w_rest, w_case⟩
end start1
theorem witness_1 : WitnessClaimed_1 := ⟨start1.p0, start1.e0, start1.about1, start1.theMethod, start1.args0, start1.below0, start1.atStart⟩
end Jvm.Pilot.@@N@@
